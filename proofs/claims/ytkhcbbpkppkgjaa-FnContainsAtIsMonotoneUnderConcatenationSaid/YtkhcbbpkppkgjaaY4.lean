/-
  The walks of the two laws on containsAtPreserveOrAtLicense.
-/
import Derived.Test.YtkhcbbpkppkgjaaY3
namespace Go.Proofs.Ytkhcbbpkppkgjaa
open Go.ChangeShapes Go.WideShapes Go.ChangeAt Go.RowKit
set_option linter.unusedVariables false
theorem below_drewN (w : World) (B n : Nat) : Below B w (w.drewN n) := ⟨rfl, rfl, rfl, Nat.le_refl _, fun _ _ => rfl⟩
def Has (s : ByteArray) : Prop := ∃ i, HitAt s i
theorem has_iff (s : ByteArray) : Has s ↔ (L aP <:+: L s ∨ L aL <:+: L s) := by
  rw [infix_occ, infix_occ]
  constructor
  · rintro ⟨i, h | h⟩
    · exact Or.inl ⟨i, h⟩
    · exact Or.inr ⟨i, h⟩
  · rintro (⟨i, h⟩ | ⟨i, h⟩)
    · exact ⟨i, Or.inl h⟩
    · exact ⟨i, Or.inr h⟩
theorem has_left (a b : ByteArray) (h : Has a) : Has (a ++ b) := by
  rw [has_iff] at h ⊢
  rw [L_app]
  exact h.imp (fun h => h.trans (List.prefix_append _ _).isInfix) (fun h => h.trans (List.prefix_append _ _).isInfix)
theorem has_right (a b : ByteArray) (h : Has b) : Has (a ++ b) := by
  rw [has_iff] at h ⊢
  rw [L_app]
  exact h.imp (fun h => h.trans (List.suffix_append _ _).isInfix) (fun h => h.trans (List.suffix_append _ _).isInfix)
theorem has_mid (a b : ByteArray) : Has (a ++ aP ++ b) ∧ Has (a ++ aL ++ b) := by
  constructor
  · exact has_left _ _ (has_right _ _ ((has_iff _).2 (Or.inl (List.infix_refl _))))
  · exact has_left _ _ (has_right _ _ ((has_iff _).2 (Or.inr (List.infix_refl _))))
theorem has_none (a b : ByteArray) (ha : ∀ k (h : k < a.size), a[k]'h ≠ 64) (hb : ∀ k (h : k < b.size), b[k]'h ≠ 64) : ¬ Has (a ++ b) := by
  rintro ⟨i, hi⟩
  have hl := hit_lt _ i hi
  have h64 := ((hit_iff _ i hl).1 hi).1
  by_cases hia : i < a.size
  · rw [ByteArray.getElem_append_left hia] at h64
    exact ha i hia h64
  · rw [ByteArray.getElem_append_right (by omega)] at h64
    exact hb _ _ h64
set_option maxRecDepth 100000 in
set_option maxHeartbeats 2000000 in
theorem FnContainsAtMatchesSubstringSearch_walk (a0 : ByteArray) (w0 : a0.size ≤ maxLen) (w : World) : Calls Try.prog 3 #[.string a0] w fun e w' => e = .returned (.bool true) ∧ Below w.heap.size w w' := by
  have hm := w0
  unfold maxLen at hm
  by_cases s0 : 1048576 < a0.size
  · go_enter Try.func3, Try.ntmps3
    go_wp2_with (first | (go_at_call 5; go_in))
    go_ret; exact ⟨rfl, Below.refl _ _⟩
  have H1 := Lib.hid (fun w => zc6 a0 aP (by omega) (by decide) (by decide) w)
  have H2 := Lib.hid (fun w => zc6 a0 aL (by omega) (by decide) (by decide) w)
  have H3 := Lib.hid (fun w => cat10 a0 (by omega) w)
  go_enter Try.func3, Try.ntmps3
  go_wp2_with (first | (go_at_call 5; go_in))
  refine (H1.out _).mono ?_
  rintro e w1 ⟨⟨b1, rfl, h1⟩, n1, rfl⟩
  cases b1
  · have K1 := Lib.hid h1; clear h1
    go_wp2_with fail
    refine (H2.out _).mono ?_
    rintro e w1 ⟨⟨b2, rfl, h2⟩, n2, rfl⟩
    have K2 := Lib.hid h2; clear h2
    go_wp2_with (first | (go_at_call 7; go_in))
    refine (H3.out _).mono ?_
    rintro e w2 ⟨⟨b3, rfl, h3⟩, hb⟩
    have hbw : Below w.heap.size w w2 := (below_drewN w _ _).trans hb
    obtain rfl : b3 = b2 := by
      rw [Bool.eq_iff_iff, h3, K2.out]
      constructor
      · rintro ⟨i, h | h⟩
        · exact absurd (K1.out.2 ⟨i, h⟩) (by simp)
        · exact ⟨i, h⟩
      · rintro ⟨i, h⟩; exact ⟨i, Or.inr h⟩
    clear h3 hb
    go_wp2_with fail
    go_ret
    exact ⟨ret_bool (by simp), hbw⟩
  · have K1 := Lib.hid h1; clear h1
    go_wp2_with (first | (go_at_call 7; go_in))
    refine (H3.out _).mono ?_
    rintro e w2 ⟨⟨b3, rfl, h3⟩, hb⟩
    have hbw : Below w.heap.size w w2 := (below_drewN w _ _).trans hb
    obtain rfl : b3 = true := by
      obtain ⟨i, h⟩ := K1.out.1 (by trivial)
      exact h3.2 ⟨i, Or.inl h⟩
    clear h3 hb
    go_wp2_with fail
    go_ret
    exact ⟨rfl, hbw⟩
set_option maxRecDepth 100000 in
set_option maxHeartbeats 4000000 in
theorem FnContainsAtIsMonotoneUnderConcatenation_walk (a0 a1 : ByteArray) (w0 : a0.size ≤ maxLen) (w1 : a1.size ≤ maxLen) (w : World) : Calls Try.prog 4 #[.string a0, .string a1] w fun e w' => e = .returned (.bool true) ∧ Below w.heap.size w w' := by
  have hm0 := w0; have hm1 := w1
  unfold maxLen at hm0 hm1
  by_cases s0 : 1048576 < a0.size
  · go_enter Try.func4, Try.ntmps4
    go_wp2_with (first | (go_at_call 8; go_in))
    go_ret; exact ⟨rfl, Below.refl _ _⟩
  by_cases s1 : 1048576 < a1.size
  · go_enter Try.func4, Try.ntmps4
    go_wp2_with (first | (go_at_call 8; go_in))
    go_ret; exact ⟨rfl, Below.refl _ _⟩
  by_cases s2 : 1048576 < a0.size + a1.size
  · go_enter Try.func4, Try.ntmps4
    go_wp2_with (first | (go_at_call 8; go_in))
    go_ret; exact ⟨rfl, Below.refl _ _⟩
  by_cases s3 : 524288 < a0.size
  · go_enter Try.func4, Try.ntmps4
    go_wp2_with (first | (go_at_call 8; go_in))
    go_ret; exact ⟨rfl, Below.refl _ _⟩
  by_cases s4 : 524288 < a1.size
  · go_enter Try.func4, Try.ntmps4
    go_wp2_with (first | (go_at_call 8; go_in))
    go_ret; exact ⟨rfl, Below.refl _ _⟩
  have z0 : (a0 ++ a1).size ≤ 1048599 := by rw [ByteArray.size_append]; omega
  have z1 : (a0 ++ aP ++ a1).size ≤ 1048599 := by rw [ByteArray.size_append, ByteArray.size_append]; have : aP.size = 9 := rfl; omega
  have z2 : (a0 ++ aL ++ a1).size ≤ 1048599 := by rw [ByteArray.size_append, ByteArray.size_append]; have : aL.size = 8 := rfl; omega
  have H1 := Lib.hid (fun w => cat10 a0 (by omega) w)
  have H2 := Lib.hid (fun w => cat10 a1 (by omega) w)
  have H3 := Lib.hid (fun w => cat10 (a0 ++ a1) z0 w)
  have H4 := Lib.hid (fun w => cat10 (a0 ++ aP ++ a1) z1 w)
  have H5 := Lib.hid (fun w => cat10 (a0 ++ aL ++ a1) z2 w)
  have C1 := Lib.hid (fun w => cnt9 a0 64 (by omega) w)
  have C2 := Lib.hid (fun w => cnt9 a1 64 (by omega) w)
  have HM := Lib.hid (has_mid a0 a1)
  have HL := Lib.hid (has_left a0 a1)
  have HR := Lib.hid (has_right a0 a1)
  have HN := Lib.hid (has_none a0 a1)
  clear z0 z1 z2
  go_enter Try.func4, Try.ntmps4
  go_wp2_with (first | (go_at_call 8; go_in) | (go_at_call 7; go_in))
  refine (H1.out _).mono ?_
  rintro e v1 ⟨⟨fa, rfl, ha⟩, hb1⟩
  have HA := Lib.hid ha; have B1 := Lib.hid hb1; clear ha hb1
  go_wp2_with (first | (go_at_call 7; go_in))
  refine (H2.out _).mono ?_
  rintro e v2 ⟨⟨fb, rfl, hb⟩, hb2⟩
  have HB := Lib.hid hb; have B2 := Lib.hid (B1.out.trans (hb2.mono B1.out.size)); clear hb hb2 B1
  go_wp2_with (first | (go_at_call 7; go_in))
  refine (H3.out _).mono ?_
  rintro e v3 ⟨⟨fab, rfl, hab⟩, hb3⟩
  have HAB := Lib.hid hab; have B3 := Lib.hid (B2.out.trans (hb3.mono B2.out.size)); clear hab hb3 B2
  have HX := Lib.hid (show fab = true ∨ (fab = false ∧ fa = false ∧ fb = false) by
    cases fab
    · right
      refine ⟨rfl, ?_, ?_⟩
      · cases fa
        · rfl
        · exact absurd (HAB.out.2 (HL.out (HA.out.1 rfl))) (by simp)
      · cases fb
        · rfl
        · exact absurd (HAB.out.2 (HR.out (HB.out.1 rfl))) (by simp)
    · exact Or.inl rfl)
  clear HA HB HL HR
  rcases HX.out with rfl | ⟨rfl, rfl, rfl⟩
  · clear HX
    cases fa <;> cases fb
    all_goals
      go_wp2_with (first | (go_at_call 7; go_in))
      refine (H4.out _).mono ?_
      rintro e v4 ⟨⟨f4, rfl, h4⟩, hb4⟩
      have B4 := Lib.hid (B3.out.trans (hb4.mono B3.out.size)); clear hb4
      obtain rfl : f4 = true := h4.2 HM.out.1
      clear h4
      go_wp2_with (first | (go_at_call 7; go_in))
      refine (H5.out _).mono ?_
      rintro e v5 ⟨⟨f5, rfl, h5⟩, hb5⟩
      have B5 := Lib.hid (B4.out.trans (hb5.mono B4.out.size)); clear hb5
      obtain rfl : f5 = true := h5.2 HM.out.2
      clear h5
      go_wp2_with fail
      refine (C1.out _).mono ?_
      rintro e v6 ⟨⟨n1, rfl, k1⟩, rfl⟩
      have K1 := Lib.hid k1; clear k1
      by_cases z1 : n1 = 0
      · subst z1
        go_wp2_with fail
        refine (C2.out _).mono ?_
        rintro e v6 ⟨⟨n2, rfl, k2⟩, rfl⟩
        have K2 := Lib.hid k2; clear k2
        by_cases z2 : n2 = 0
        · exact absurd (HAB.out.1 (by trivial)) (HN.out (K1.out (by trivial)) (K2.out z2))
        · have d2 : (((n2 : Nat) : Int) == 0) = false := by simp; omega
          go_wp2_with fail
          go_ret
          exact ⟨rfl, B5.out⟩
      · have d1 : (((n1 : Nat) : Int) == 0) = false := by simp; omega
        go_wp2_with fail
        go_ret
        exact ⟨rfl, B5.out⟩
  · clear HX
    all_goals
      go_wp2_with (first | (go_at_call 7; go_in))
      refine (H4.out _).mono ?_
      rintro e v4 ⟨⟨f4, rfl, h4⟩, hb4⟩
      have B4 := Lib.hid (B3.out.trans (hb4.mono B3.out.size)); clear hb4
      obtain rfl : f4 = true := h4.2 HM.out.1
      clear h4
      go_wp2_with (first | (go_at_call 7; go_in))
      refine (H5.out _).mono ?_
      rintro e v5 ⟨⟨f5, rfl, h5⟩, hb5⟩
      have B5 := Lib.hid (B4.out.trans (hb5.mono B4.out.size)); clear hb5
      obtain rfl : f5 = true := h5.2 HM.out.2
      clear h5
      go_wp2_with fail
      refine (C1.out _).mono ?_
      rintro e v6 ⟨⟨n1, rfl, k1⟩, rfl⟩
      have K1 := Lib.hid k1; clear k1
      by_cases z1 : n1 = 0
      · subst z1
        go_wp2_with fail
        refine (C2.out _).mono ?_
        rintro e v6 ⟨⟨n2, rfl, k2⟩, rfl⟩
        have K2 := Lib.hid k2; clear k2
        by_cases z2 : n2 = 0
        · subst z2
          go_wp2_with fail
          go_ret
          exact ⟨rfl, B5.out⟩
        · have d2 : (((n2 : Nat) : Int) == 0) = false := by simp; omega
          go_wp2_with fail
          go_ret
          exact ⟨rfl, B5.out⟩
      · have d1 : (((n1 : Nat) : Int) == 0) = false := by simp; omega
        go_wp2_with fail
        go_ret
        exact ⟨rfl, B5.out⟩
end Go.Proofs.Ytkhcbbpkppkgjaa
