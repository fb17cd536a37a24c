/-
  zzRune at four bytes; zzRune.
-/
import Derived.Test.YtlplikpjnocdfaaDoorC2
namespace Go.Proofs.YtlplikpjnocdfaaDoor
open Go.ChangeShapes Go.WideShapes Go.ChangeAt Go.RowKit
set_option linter.unusedVariables false
set_option maxRecDepth 100000 in
set_option maxHeartbeats 8000000 in
theorem zr_4A (w : World) (v : Value) (xs : List Int) (i : Nat) (h : At8 w v xs) (hl : xs.length ≤ 1048576) (hi : i < xs.length) (B0 : 240 ≤ nb xs i) (B1 : nb xs i ≤ 244) (B2 : nb xs i = 240) :
    Calls Tryd.prog 32 #[v, .int .i64 i] w fun e w' => RuneW w xs i e w' := by
  obtain ⟨p, c, hv, hc, hq⟩ := h.cell
  obtain ⟨a, rfl, q0⟩ := hq i hi
  have HQ := Lib.hid (show ∀ j, j < xs.length → w.cell? (a.add j) = some (.int .u8 (nb xs j : Nat)) from fun j hj => by
    obtain ⟨a', ha, hc⟩ := hq j hj
    cases ha
    exact hc)
  obtain ⟨j1, hj1⟩ : ∃ j, i + 1 = j := ⟨_, rfl⟩
  obtain ⟨j2, hj2⟩ : ∃ j, i + 2 = j := ⟨_, rfl⟩
  obtain ⟨j3, hj3⟩ : ∃ j, i + 3 = j := ⟨_, rfl⟩
  have HJ := Lib.hid (And.intro hj1 (And.intro hj2 hj3))
  have HC1 := Lib.hid (ct35 w v xs j1 h hl (by omega)); have HC2 := Lib.hid (ct35 w v xs j2 h hl (by omega)); have HC3 := Lib.hid (ct35 w v xs j3 h hl (by omega))
  subst hv
  obtain ⟨n, hn⟩ : ∃ n, xs.length = n := ⟨_, rfl⟩
  have HDZ := Lib.hid (show dz xs i = zd (n - i) (nb xs i) (nb xs j1) (nb xs j2) (nb xs j3) by rw [← hn, ← hj1, ← hj2, ← hj3]; rfl)
  unfold Ct at HC1 HC2 HC3
  rw [hn] at HQ HC1 HC2 HC3 hc hl hi ⊢
  obtain ⟨b0, e0⟩ : ∃ x, nb xs i = x := ⟨_, rfl⟩
  obtain ⟨b1, e1⟩ : ∃ x, nb xs j1 = x := ⟨_, rfl⟩
  obtain ⟨b2, e2⟩ : ∃ x, nb xs j2 = x := ⟨_, rfl⟩
  obtain ⟨b3, e3⟩ : ∃ x, nb xs j3 = x := ⟨_, rfl⟩
  have HB := Lib.hid (show ∀ j, nb xs j < 256 from fun j => nb_lt h.2 j)
  have g0 := HB.out i; have g1 := HB.out j1; have g2 := HB.out j2; have g3 := HB.out j3
  have HE := Lib.hid (And.intro e1 (And.intro e2 e3))
  rw [e1] at HC1; rw [e2] at HC2; rw [e3] at HC3
  rw [e0, e1, e2, e3] at HDZ
  rw [e0] at q0
  rw [e0] at g0 B0 B1 B2; rw [e1] at g1; rw [e2] at g2; rw [e3] at g3
  have f1 : (i : Int) + 1 = (j1 : Int) := by omega
  have f2 : (i : Int) + 2 = (j2 : Int) := by omega
  have f3 : (i : Int) + 3 = (j3 : Int) := by omega
  have HI := Lib.hid (show IntKind.i64.wrap (j1 : Int) = (j1 : Int) ∧ IntKind.i64.wrap (j2 : Int) = (j2 : Int) ∧ IntKind.i64.wrap (j3 : Int) = (j3 : Int) from ⟨IntWalk.i64_in _ (by omega), IntWalk.i64_in _ (by omega), IntWalk.i64_in _ (by omega)⟩)
  have HB3 := Lib.hid (show j1 ≤ 1048580 ∧ j2 ≤ 1048580 ∧ j3 ≤ 1048580 by omega)
  clear hq h hn e0 e1 e2 e3 hj1 hj2 hj3 HB
  have k2 : ¬ b0 < 128 := by omega
  have k3 : ¬ b0 ≤ 223 := by omega
  have k4 : ¬ b0 ≤ 239 := by omega
  have t1 : ((b0 : Int) == 240) = true := by simp; omega
  have t2 : ((b0 : Int) == 244) = false := by simp; omega
  by_cases l1 : j1 < n
  · have q1 := HQ.out j1 l1
    rw [HE.out.1] at q1
    by_cases c1 : 144 ≤ b1
    · by_cases c2 : b1 ≤ 191
      · by_cases T2 : j2 < n ∧ 128 ≤ b2 ∧ b2 ≤ 191
        · by_cases T3 : j3 < n ∧ 128 ≤ b3 ∧ b3 ≤ 191
          · have K2 := Lib.hid (show Calls Tryd.prog 35 #[.slice (some a) n c, .int .i64 (j2 : Nat)] w fun e w' => e = .returned (.bool true) ∧ w' = w from (HC2.out).mono fun e w' ⟨⟨b, he, hb⟩, hw⟩ => ⟨by rw [he]; have : b = true := (hb.2 T2); rw [this], hw⟩)
            have K3 := Lib.hid (show Calls Tryd.prog 35 #[.slice (some a) n c, .int .i64 (j3 : Nat)] w fun e w' => e = .returned (.bool true) ∧ w' = w from (HC3.out).mono fun e w' ⟨⟨b, he, hb⟩, hw⟩ => ⟨by rw [he]; have : b = true := (hb.2 T3); rw [this], hw⟩)
            have KK := Lib.hid (show ∀ j b, RC j2 j3 true true j b → Calls Tryd.prog 35 #[.slice (some a) n c, .int .i64 (j : Nat)] w fun e w' => e = .returned (.bool b) ∧ w' = w from fun j b hr => by cases hr with | a => exact K2.out | b => exact K3.out)
            have q2 := HQ.out j2 T2.1
            rw [HE.out.2.1] at q2
            have l2 := T2.1
            have q3 := HQ.out j3 T3.1
            rw [HE.out.2.2] at q3
            have l3 := T3.1
            have HW := Lib.hid (show (dz xs i).2 = 4 by have hj := HJ.out; rw [HDZ.out]; unfold zd; rw [if_neg (by omega), if_neg (by omega), if_neg (by omega), if_pos (by omega), if_pos (by refine ⟨by omega, ?_, ?_, by omega, by omega, by omega, by omega⟩ <;> (split <;> omega))])
            clear T2 T3
            go_enter Tryd.func32, Tryd.ntmps32
            go_wp2_with (go_at_call 35; refine (KK.out _ _ (by constructor)).mono ?_; rintro e w1 ⟨rfl, hw1⟩; have hw2 := hw1.symm; subst hw2)
            obtain ⟨i1, i2, i3⟩ := HI.out
            go_quiet (fail)
            clear i1 i2 i3
            go_wp2_with fail
            go_ret2
            exact RuneW.of HW.out ⟨_, rfl⟩
          · have K2 := Lib.hid (show Calls Tryd.prog 35 #[.slice (some a) n c, .int .i64 (j2 : Nat)] w fun e w' => e = .returned (.bool true) ∧ w' = w from (HC2.out).mono fun e w' ⟨⟨b, he, hb⟩, hw⟩ => ⟨by rw [he]; have : b = true := (hb.2 T2); rw [this], hw⟩)
            have K3 := Lib.hid (show Calls Tryd.prog 35 #[.slice (some a) n c, .int .i64 (j3 : Nat)] w fun e w' => e = .returned (.bool false) ∧ w' = w from (HC3.out).mono fun e w' ⟨⟨b, he, hb⟩, hw⟩ => ⟨by rw [he]; have : b = false := (by cases b with | false => rfl | true => exact absurd (hb.1 rfl) T3); rw [this], hw⟩)
            have KK := Lib.hid (show ∀ j b, RC j2 j3 true false j b → Calls Tryd.prog 35 #[.slice (some a) n c, .int .i64 (j : Nat)] w fun e w' => e = .returned (.bool b) ∧ w' = w from fun j b hr => by cases hr with | a => exact K2.out | b => exact K3.out)
            have HW := Lib.hid (show (dz xs i).2 = 1 by have hj := HJ.out; rw [HDZ.out]; unfold zd; rw [if_neg (by omega), if_neg (by omega), if_neg (by omega), if_pos (by omega), if_neg (by rintro ⟨h1, h2, h3, h4, h5, h6, h7⟩; (split at h2) <;> (split at h3) <;> omega)])
            clear T2 T3
            go_enter Tryd.func32, Tryd.ntmps32
            go_wp2_with (go_at_call 35; refine (KK.out _ _ (by constructor)).mono ?_; rintro e w1 ⟨rfl, hw1⟩; have hw2 := hw1.symm; subst hw2)
            go_ret2
            exact RuneW.of HW.out ⟨0, rfl⟩
        · have K2 := Lib.hid (show Calls Tryd.prog 35 #[.slice (some a) n c, .int .i64 (j2 : Nat)] w fun e w' => e = .returned (.bool false) ∧ w' = w from (HC2.out).mono fun e w' ⟨⟨b, he, hb⟩, hw⟩ => ⟨by rw [he]; have : b = false := (by cases b with | false => rfl | true => exact absurd (hb.1 rfl) T2); rw [this], hw⟩)
          have HW := Lib.hid (show (dz xs i).2 = 1 by have hj := HJ.out; rw [HDZ.out]; unfold zd; rw [if_neg (by omega), if_neg (by omega), if_neg (by omega), if_pos (by omega), if_neg (by rintro ⟨h1, h2, h3, h4, h5, h6, h7⟩; (split at h2) <;> (split at h3) <;> omega)])
          clear T2
          go_enter Tryd.func32, Tryd.ntmps32
          go_wp2_with (first | (go_at_call 35; refine (K2.out).mono ?_; rintro e w1 ⟨rfl, hw1⟩; have hw2 := hw1.symm; subst hw2))
          go_ret2
          exact RuneW.of HW.out ⟨0, rfl⟩
      · have HW := Lib.hid (show (dz xs i).2 = 1 by have hj := HJ.out; rw [HDZ.out]; unfold zd; rw [if_neg (by omega), if_neg (by omega), if_neg (by omega), if_pos (by omega), if_neg (by rintro ⟨h1, h2, h3, h4, h5, h6, h7⟩; (split at h2) <;> (split at h3) <;> omega)])
        go_enter Tryd.func32, Tryd.ntmps32
        go_wp2_with fail
        go_ret2
        exact RuneW.of HW.out ⟨0, rfl⟩
    · have HW := Lib.hid (show (dz xs i).2 = 1 by have hj := HJ.out; rw [HDZ.out]; unfold zd; rw [if_neg (by omega), if_neg (by omega), if_neg (by omega), if_pos (by omega), if_neg (by rintro ⟨h1, h2, h3, h4, h5, h6, h7⟩; (split at h2) <;> (split at h3) <;> omega)])
      go_enter Tryd.func32, Tryd.ntmps32
      go_wp2_with fail
      go_ret2
      exact RuneW.of HW.out ⟨0, rfl⟩
  · have HW := Lib.hid (show (dz xs i).2 = 1 by have hj := HJ.out; rw [HDZ.out]; unfold zd; rw [if_neg (by omega), if_neg (by omega), if_neg (by omega), if_pos (by omega), if_neg (by rintro ⟨h1, h2, h3, h4, h5, h6, h7⟩; (split at h2) <;> (split at h3) <;> omega)])
    go_enter Tryd.func32, Tryd.ntmps32
    go_wp2_with fail
    go_ret2
    exact RuneW.of HW.out ⟨0, rfl⟩
set_option maxRecDepth 100000 in
set_option maxHeartbeats 8000000 in
theorem zr_4B (w : World) (v : Value) (xs : List Int) (i : Nat) (h : At8 w v xs) (hl : xs.length ≤ 1048576) (hi : i < xs.length) (B0 : 240 ≤ nb xs i) (B1 : nb xs i ≤ 244) (B2 : nb xs i = 244) :
    Calls Tryd.prog 32 #[v, .int .i64 i] w fun e w' => RuneW w xs i e w' := by
  obtain ⟨p, c, hv, hc, hq⟩ := h.cell
  obtain ⟨a, rfl, q0⟩ := hq i hi
  have HQ := Lib.hid (show ∀ j, j < xs.length → w.cell? (a.add j) = some (.int .u8 (nb xs j : Nat)) from fun j hj => by
    obtain ⟨a', ha, hc⟩ := hq j hj
    cases ha
    exact hc)
  obtain ⟨j1, hj1⟩ : ∃ j, i + 1 = j := ⟨_, rfl⟩
  obtain ⟨j2, hj2⟩ : ∃ j, i + 2 = j := ⟨_, rfl⟩
  obtain ⟨j3, hj3⟩ : ∃ j, i + 3 = j := ⟨_, rfl⟩
  have HJ := Lib.hid (And.intro hj1 (And.intro hj2 hj3))
  have HC1 := Lib.hid (ct35 w v xs j1 h hl (by omega)); have HC2 := Lib.hid (ct35 w v xs j2 h hl (by omega)); have HC3 := Lib.hid (ct35 w v xs j3 h hl (by omega))
  subst hv
  obtain ⟨n, hn⟩ : ∃ n, xs.length = n := ⟨_, rfl⟩
  have HDZ := Lib.hid (show dz xs i = zd (n - i) (nb xs i) (nb xs j1) (nb xs j2) (nb xs j3) by rw [← hn, ← hj1, ← hj2, ← hj3]; rfl)
  unfold Ct at HC1 HC2 HC3
  rw [hn] at HQ HC1 HC2 HC3 hc hl hi ⊢
  obtain ⟨b0, e0⟩ : ∃ x, nb xs i = x := ⟨_, rfl⟩
  obtain ⟨b1, e1⟩ : ∃ x, nb xs j1 = x := ⟨_, rfl⟩
  obtain ⟨b2, e2⟩ : ∃ x, nb xs j2 = x := ⟨_, rfl⟩
  obtain ⟨b3, e3⟩ : ∃ x, nb xs j3 = x := ⟨_, rfl⟩
  have HB := Lib.hid (show ∀ j, nb xs j < 256 from fun j => nb_lt h.2 j)
  have g0 := HB.out i; have g1 := HB.out j1; have g2 := HB.out j2; have g3 := HB.out j3
  have HE := Lib.hid (And.intro e1 (And.intro e2 e3))
  rw [e1] at HC1; rw [e2] at HC2; rw [e3] at HC3
  rw [e0, e1, e2, e3] at HDZ
  rw [e0] at q0
  rw [e0] at g0 B0 B1 B2; rw [e1] at g1; rw [e2] at g2; rw [e3] at g3
  have f1 : (i : Int) + 1 = (j1 : Int) := by omega
  have f2 : (i : Int) + 2 = (j2 : Int) := by omega
  have f3 : (i : Int) + 3 = (j3 : Int) := by omega
  have HI := Lib.hid (show IntKind.i64.wrap (j1 : Int) = (j1 : Int) ∧ IntKind.i64.wrap (j2 : Int) = (j2 : Int) ∧ IntKind.i64.wrap (j3 : Int) = (j3 : Int) from ⟨IntWalk.i64_in _ (by omega), IntWalk.i64_in _ (by omega), IntWalk.i64_in _ (by omega)⟩)
  have HB3 := Lib.hid (show j1 ≤ 1048580 ∧ j2 ≤ 1048580 ∧ j3 ≤ 1048580 by omega)
  clear hq h hn e0 e1 e2 e3 hj1 hj2 hj3 HB
  have k2 : ¬ b0 < 128 := by omega
  have k3 : ¬ b0 ≤ 223 := by omega
  have k4 : ¬ b0 ≤ 239 := by omega
  have t1 : ((b0 : Int) == 240) = false := by simp; omega
  have t2 : ((b0 : Int) == 244) = true := by simp; omega
  by_cases l1 : j1 < n
  · have q1 := HQ.out j1 l1
    rw [HE.out.1] at q1
    by_cases c1 : 128 ≤ b1
    · by_cases c2 : b1 ≤ 143
      · by_cases T2 : j2 < n ∧ 128 ≤ b2 ∧ b2 ≤ 191
        · by_cases T3 : j3 < n ∧ 128 ≤ b3 ∧ b3 ≤ 191
          · have K2 := Lib.hid (show Calls Tryd.prog 35 #[.slice (some a) n c, .int .i64 (j2 : Nat)] w fun e w' => e = .returned (.bool true) ∧ w' = w from (HC2.out).mono fun e w' ⟨⟨b, he, hb⟩, hw⟩ => ⟨by rw [he]; have : b = true := (hb.2 T2); rw [this], hw⟩)
            have K3 := Lib.hid (show Calls Tryd.prog 35 #[.slice (some a) n c, .int .i64 (j3 : Nat)] w fun e w' => e = .returned (.bool true) ∧ w' = w from (HC3.out).mono fun e w' ⟨⟨b, he, hb⟩, hw⟩ => ⟨by rw [he]; have : b = true := (hb.2 T3); rw [this], hw⟩)
            have KK := Lib.hid (show ∀ j b, RC j2 j3 true true j b → Calls Tryd.prog 35 #[.slice (some a) n c, .int .i64 (j : Nat)] w fun e w' => e = .returned (.bool b) ∧ w' = w from fun j b hr => by cases hr with | a => exact K2.out | b => exact K3.out)
            have q2 := HQ.out j2 T2.1
            rw [HE.out.2.1] at q2
            have l2 := T2.1
            have q3 := HQ.out j3 T3.1
            rw [HE.out.2.2] at q3
            have l3 := T3.1
            have HW := Lib.hid (show (dz xs i).2 = 4 by have hj := HJ.out; rw [HDZ.out]; unfold zd; rw [if_neg (by omega), if_neg (by omega), if_neg (by omega), if_pos (by omega), if_pos (by refine ⟨by omega, ?_, ?_, by omega, by omega, by omega, by omega⟩ <;> (split <;> omega))])
            clear T2 T3
            go_enter Tryd.func32, Tryd.ntmps32
            go_wp2_with (go_at_call 35; refine (KK.out _ _ (by constructor)).mono ?_; rintro e w1 ⟨rfl, hw1⟩; have hw2 := hw1.symm; subst hw2)
            obtain ⟨i1, i2, i3⟩ := HI.out
            go_quiet (fail)
            clear i1 i2 i3
            go_wp2_with fail
            go_ret2
            exact RuneW.of HW.out ⟨_, rfl⟩
          · have K2 := Lib.hid (show Calls Tryd.prog 35 #[.slice (some a) n c, .int .i64 (j2 : Nat)] w fun e w' => e = .returned (.bool true) ∧ w' = w from (HC2.out).mono fun e w' ⟨⟨b, he, hb⟩, hw⟩ => ⟨by rw [he]; have : b = true := (hb.2 T2); rw [this], hw⟩)
            have K3 := Lib.hid (show Calls Tryd.prog 35 #[.slice (some a) n c, .int .i64 (j3 : Nat)] w fun e w' => e = .returned (.bool false) ∧ w' = w from (HC3.out).mono fun e w' ⟨⟨b, he, hb⟩, hw⟩ => ⟨by rw [he]; have : b = false := (by cases b with | false => rfl | true => exact absurd (hb.1 rfl) T3); rw [this], hw⟩)
            have KK := Lib.hid (show ∀ j b, RC j2 j3 true false j b → Calls Tryd.prog 35 #[.slice (some a) n c, .int .i64 (j : Nat)] w fun e w' => e = .returned (.bool b) ∧ w' = w from fun j b hr => by cases hr with | a => exact K2.out | b => exact K3.out)
            have HW := Lib.hid (show (dz xs i).2 = 1 by have hj := HJ.out; rw [HDZ.out]; unfold zd; rw [if_neg (by omega), if_neg (by omega), if_neg (by omega), if_pos (by omega), if_neg (by rintro ⟨h1, h2, h3, h4, h5, h6, h7⟩; (split at h2) <;> (split at h3) <;> omega)])
            clear T2 T3
            go_enter Tryd.func32, Tryd.ntmps32
            go_wp2_with (go_at_call 35; refine (KK.out _ _ (by constructor)).mono ?_; rintro e w1 ⟨rfl, hw1⟩; have hw2 := hw1.symm; subst hw2)
            go_ret2
            exact RuneW.of HW.out ⟨0, rfl⟩
        · have K2 := Lib.hid (show Calls Tryd.prog 35 #[.slice (some a) n c, .int .i64 (j2 : Nat)] w fun e w' => e = .returned (.bool false) ∧ w' = w from (HC2.out).mono fun e w' ⟨⟨b, he, hb⟩, hw⟩ => ⟨by rw [he]; have : b = false := (by cases b with | false => rfl | true => exact absurd (hb.1 rfl) T2); rw [this], hw⟩)
          have HW := Lib.hid (show (dz xs i).2 = 1 by have hj := HJ.out; rw [HDZ.out]; unfold zd; rw [if_neg (by omega), if_neg (by omega), if_neg (by omega), if_pos (by omega), if_neg (by rintro ⟨h1, h2, h3, h4, h5, h6, h7⟩; (split at h2) <;> (split at h3) <;> omega)])
          clear T2
          go_enter Tryd.func32, Tryd.ntmps32
          go_wp2_with (first | (go_at_call 35; refine (K2.out).mono ?_; rintro e w1 ⟨rfl, hw1⟩; have hw2 := hw1.symm; subst hw2))
          go_ret2
          exact RuneW.of HW.out ⟨0, rfl⟩
      · have HW := Lib.hid (show (dz xs i).2 = 1 by have hj := HJ.out; rw [HDZ.out]; unfold zd; rw [if_neg (by omega), if_neg (by omega), if_neg (by omega), if_pos (by omega), if_neg (by rintro ⟨h1, h2, h3, h4, h5, h6, h7⟩; (split at h2) <;> (split at h3) <;> omega)])
        go_enter Tryd.func32, Tryd.ntmps32
        go_wp2_with fail
        go_ret2
        exact RuneW.of HW.out ⟨0, rfl⟩
    · have HW := Lib.hid (show (dz xs i).2 = 1 by have hj := HJ.out; rw [HDZ.out]; unfold zd; rw [if_neg (by omega), if_neg (by omega), if_neg (by omega), if_pos (by omega), if_neg (by rintro ⟨h1, h2, h3, h4, h5, h6, h7⟩; (split at h2) <;> (split at h3) <;> omega)])
      go_enter Tryd.func32, Tryd.ntmps32
      go_wp2_with fail
      go_ret2
      exact RuneW.of HW.out ⟨0, rfl⟩
  · have HW := Lib.hid (show (dz xs i).2 = 1 by have hj := HJ.out; rw [HDZ.out]; unfold zd; rw [if_neg (by omega), if_neg (by omega), if_neg (by omega), if_pos (by omega), if_neg (by rintro ⟨h1, h2, h3, h4, h5, h6, h7⟩; (split at h2) <;> (split at h3) <;> omega)])
    go_enter Tryd.func32, Tryd.ntmps32
    go_wp2_with fail
    go_ret2
    exact RuneW.of HW.out ⟨0, rfl⟩
set_option maxRecDepth 100000 in
set_option maxHeartbeats 8000000 in
theorem zr_4C (w : World) (v : Value) (xs : List Int) (i : Nat) (h : At8 w v xs) (hl : xs.length ≤ 1048576) (hi : i < xs.length) (B0 : 240 ≤ nb xs i) (B1 : nb xs i ≤ 244) (B2 : nb xs i ≠ 240 ∧ nb xs i ≠ 244) :
    Calls Tryd.prog 32 #[v, .int .i64 i] w fun e w' => RuneW w xs i e w' := by
  obtain ⟨p, c, hv, hc, hq⟩ := h.cell
  obtain ⟨a, rfl, q0⟩ := hq i hi
  have HQ := Lib.hid (show ∀ j, j < xs.length → w.cell? (a.add j) = some (.int .u8 (nb xs j : Nat)) from fun j hj => by
    obtain ⟨a', ha, hc⟩ := hq j hj
    cases ha
    exact hc)
  obtain ⟨j1, hj1⟩ : ∃ j, i + 1 = j := ⟨_, rfl⟩
  obtain ⟨j2, hj2⟩ : ∃ j, i + 2 = j := ⟨_, rfl⟩
  obtain ⟨j3, hj3⟩ : ∃ j, i + 3 = j := ⟨_, rfl⟩
  have HJ := Lib.hid (And.intro hj1 (And.intro hj2 hj3))
  have HC1 := Lib.hid (ct35 w v xs j1 h hl (by omega)); have HC2 := Lib.hid (ct35 w v xs j2 h hl (by omega)); have HC3 := Lib.hid (ct35 w v xs j3 h hl (by omega))
  subst hv
  obtain ⟨n, hn⟩ : ∃ n, xs.length = n := ⟨_, rfl⟩
  have HDZ := Lib.hid (show dz xs i = zd (n - i) (nb xs i) (nb xs j1) (nb xs j2) (nb xs j3) by rw [← hn, ← hj1, ← hj2, ← hj3]; rfl)
  unfold Ct at HC1 HC2 HC3
  rw [hn] at HQ HC1 HC2 HC3 hc hl hi ⊢
  obtain ⟨b0, e0⟩ : ∃ x, nb xs i = x := ⟨_, rfl⟩
  obtain ⟨b1, e1⟩ : ∃ x, nb xs j1 = x := ⟨_, rfl⟩
  obtain ⟨b2, e2⟩ : ∃ x, nb xs j2 = x := ⟨_, rfl⟩
  obtain ⟨b3, e3⟩ : ∃ x, nb xs j3 = x := ⟨_, rfl⟩
  have HB := Lib.hid (show ∀ j, nb xs j < 256 from fun j => nb_lt h.2 j)
  have g0 := HB.out i; have g1 := HB.out j1; have g2 := HB.out j2; have g3 := HB.out j3
  have HE := Lib.hid (And.intro e1 (And.intro e2 e3))
  rw [e1] at HC1; rw [e2] at HC2; rw [e3] at HC3
  rw [e0, e1, e2, e3] at HDZ
  rw [e0] at q0
  rw [e0] at g0 B0 B1 B2; rw [e1] at g1; rw [e2] at g2; rw [e3] at g3
  have f1 : (i : Int) + 1 = (j1 : Int) := by omega
  have f2 : (i : Int) + 2 = (j2 : Int) := by omega
  have f3 : (i : Int) + 3 = (j3 : Int) := by omega
  have HI := Lib.hid (show IntKind.i64.wrap (j1 : Int) = (j1 : Int) ∧ IntKind.i64.wrap (j2 : Int) = (j2 : Int) ∧ IntKind.i64.wrap (j3 : Int) = (j3 : Int) from ⟨IntWalk.i64_in _ (by omega), IntWalk.i64_in _ (by omega), IntWalk.i64_in _ (by omega)⟩)
  have HB3 := Lib.hid (show j1 ≤ 1048580 ∧ j2 ≤ 1048580 ∧ j3 ≤ 1048580 by omega)
  clear hq h hn e0 e1 e2 e3 hj1 hj2 hj3 HB
  have k2 : ¬ b0 < 128 := by omega
  have k3 : ¬ b0 ≤ 223 := by omega
  have k4 : ¬ b0 ≤ 239 := by omega
  have t1 : ((b0 : Int) == 240) = false := by simp; omega
  have t2 : ((b0 : Int) == 244) = false := by simp; omega
  by_cases l1 : j1 < n
  · have q1 := HQ.out j1 l1
    rw [HE.out.1] at q1
    by_cases c1 : 128 ≤ b1
    · by_cases c2 : b1 ≤ 191
      · by_cases T2 : j2 < n ∧ 128 ≤ b2 ∧ b2 ≤ 191
        · by_cases T3 : j3 < n ∧ 128 ≤ b3 ∧ b3 ≤ 191
          · have K2 := Lib.hid (show Calls Tryd.prog 35 #[.slice (some a) n c, .int .i64 (j2 : Nat)] w fun e w' => e = .returned (.bool true) ∧ w' = w from (HC2.out).mono fun e w' ⟨⟨b, he, hb⟩, hw⟩ => ⟨by rw [he]; have : b = true := (hb.2 T2); rw [this], hw⟩)
            have K3 := Lib.hid (show Calls Tryd.prog 35 #[.slice (some a) n c, .int .i64 (j3 : Nat)] w fun e w' => e = .returned (.bool true) ∧ w' = w from (HC3.out).mono fun e w' ⟨⟨b, he, hb⟩, hw⟩ => ⟨by rw [he]; have : b = true := (hb.2 T3); rw [this], hw⟩)
            have KK := Lib.hid (show ∀ j b, RC j2 j3 true true j b → Calls Tryd.prog 35 #[.slice (some a) n c, .int .i64 (j : Nat)] w fun e w' => e = .returned (.bool b) ∧ w' = w from fun j b hr => by cases hr with | a => exact K2.out | b => exact K3.out)
            have q2 := HQ.out j2 T2.1
            rw [HE.out.2.1] at q2
            have l2 := T2.1
            have q3 := HQ.out j3 T3.1
            rw [HE.out.2.2] at q3
            have l3 := T3.1
            have HW := Lib.hid (show (dz xs i).2 = 4 by have hj := HJ.out; rw [HDZ.out]; unfold zd; rw [if_neg (by omega), if_neg (by omega), if_neg (by omega), if_pos (by omega), if_pos (by refine ⟨by omega, ?_, ?_, by omega, by omega, by omega, by omega⟩ <;> (split <;> omega))])
            clear T2 T3
            go_enter Tryd.func32, Tryd.ntmps32
            go_wp2_with (go_at_call 35; refine (KK.out _ _ (by constructor)).mono ?_; rintro e w1 ⟨rfl, hw1⟩; have hw2 := hw1.symm; subst hw2)
            obtain ⟨i1, i2, i3⟩ := HI.out
            go_quiet (fail)
            clear i1 i2 i3
            go_wp2_with fail
            go_ret2
            exact RuneW.of HW.out ⟨_, rfl⟩
          · have K2 := Lib.hid (show Calls Tryd.prog 35 #[.slice (some a) n c, .int .i64 (j2 : Nat)] w fun e w' => e = .returned (.bool true) ∧ w' = w from (HC2.out).mono fun e w' ⟨⟨b, he, hb⟩, hw⟩ => ⟨by rw [he]; have : b = true := (hb.2 T2); rw [this], hw⟩)
            have K3 := Lib.hid (show Calls Tryd.prog 35 #[.slice (some a) n c, .int .i64 (j3 : Nat)] w fun e w' => e = .returned (.bool false) ∧ w' = w from (HC3.out).mono fun e w' ⟨⟨b, he, hb⟩, hw⟩ => ⟨by rw [he]; have : b = false := (by cases b with | false => rfl | true => exact absurd (hb.1 rfl) T3); rw [this], hw⟩)
            have KK := Lib.hid (show ∀ j b, RC j2 j3 true false j b → Calls Tryd.prog 35 #[.slice (some a) n c, .int .i64 (j : Nat)] w fun e w' => e = .returned (.bool b) ∧ w' = w from fun j b hr => by cases hr with | a => exact K2.out | b => exact K3.out)
            have HW := Lib.hid (show (dz xs i).2 = 1 by have hj := HJ.out; rw [HDZ.out]; unfold zd; rw [if_neg (by omega), if_neg (by omega), if_neg (by omega), if_pos (by omega), if_neg (by rintro ⟨h1, h2, h3, h4, h5, h6, h7⟩; (split at h2) <;> (split at h3) <;> omega)])
            clear T2 T3
            go_enter Tryd.func32, Tryd.ntmps32
            go_wp2_with (go_at_call 35; refine (KK.out _ _ (by constructor)).mono ?_; rintro e w1 ⟨rfl, hw1⟩; have hw2 := hw1.symm; subst hw2)
            go_ret2
            exact RuneW.of HW.out ⟨0, rfl⟩
        · have K2 := Lib.hid (show Calls Tryd.prog 35 #[.slice (some a) n c, .int .i64 (j2 : Nat)] w fun e w' => e = .returned (.bool false) ∧ w' = w from (HC2.out).mono fun e w' ⟨⟨b, he, hb⟩, hw⟩ => ⟨by rw [he]; have : b = false := (by cases b with | false => rfl | true => exact absurd (hb.1 rfl) T2); rw [this], hw⟩)
          have HW := Lib.hid (show (dz xs i).2 = 1 by have hj := HJ.out; rw [HDZ.out]; unfold zd; rw [if_neg (by omega), if_neg (by omega), if_neg (by omega), if_pos (by omega), if_neg (by rintro ⟨h1, h2, h3, h4, h5, h6, h7⟩; (split at h2) <;> (split at h3) <;> omega)])
          clear T2
          go_enter Tryd.func32, Tryd.ntmps32
          go_wp2_with (first | (go_at_call 35; refine (K2.out).mono ?_; rintro e w1 ⟨rfl, hw1⟩; have hw2 := hw1.symm; subst hw2))
          go_ret2
          exact RuneW.of HW.out ⟨0, rfl⟩
      · have HW := Lib.hid (show (dz xs i).2 = 1 by have hj := HJ.out; rw [HDZ.out]; unfold zd; rw [if_neg (by omega), if_neg (by omega), if_neg (by omega), if_pos (by omega), if_neg (by rintro ⟨h1, h2, h3, h4, h5, h6, h7⟩; (split at h2) <;> (split at h3) <;> omega)])
        go_enter Tryd.func32, Tryd.ntmps32
        go_wp2_with fail
        go_ret2
        exact RuneW.of HW.out ⟨0, rfl⟩
    · have HW := Lib.hid (show (dz xs i).2 = 1 by have hj := HJ.out; rw [HDZ.out]; unfold zd; rw [if_neg (by omega), if_neg (by omega), if_neg (by omega), if_pos (by omega), if_neg (by rintro ⟨h1, h2, h3, h4, h5, h6, h7⟩; (split at h2) <;> (split at h3) <;> omega)])
      go_enter Tryd.func32, Tryd.ntmps32
      go_wp2_with fail
      go_ret2
      exact RuneW.of HW.out ⟨0, rfl⟩
  · have HW := Lib.hid (show (dz xs i).2 = 1 by have hj := HJ.out; rw [HDZ.out]; unfold zd; rw [if_neg (by omega), if_neg (by omega), if_neg (by omega), if_pos (by omega), if_neg (by rintro ⟨h1, h2, h3, h4, h5, h6, h7⟩; (split at h2) <;> (split at h3) <;> omega)])
    go_enter Tryd.func32, Tryd.ntmps32
    go_wp2_with fail
    go_ret2
    exact RuneW.of HW.out ⟨0, rfl⟩
/-- zzRune -/
theorem zr32 (w : World) (v : Value) (xs : List Int) (i : Nat) (h : At8 w v xs) (hl : xs.length ≤ 1048576) (hi : i < xs.length) :
    Calls Tryd.prog 32 #[v, .int .i64 i] w fun e w' => RuneW w xs i e w' := by
  by_cases a : nb xs i < 128
  · exact zr_a w v xs i h hl hi a
  by_cases b : nb xs i < 194
  · exact zr_i w v xs i h hl hi (Or.inl ⟨by omega, b⟩)
  by_cases c : nb xs i ≤ 223
  · exact zr_2 w v xs i h hl hi (by omega) c
  by_cases d : nb xs i ≤ 239
  · by_cases d1 : nb xs i = 224
    · exact zr_3A w v xs i h hl hi (by omega) d d1
    by_cases d2 : nb xs i = 237
    · exact zr_3B w v xs i h hl hi (by omega) d d2
    · exact zr_3C w v xs i h hl hi (by omega) d ⟨d1, d2⟩
  by_cases e : nb xs i ≤ 244
  · by_cases d1 : nb xs i = 240
    · exact zr_4A w v xs i h hl hi (by omega) e d1
    by_cases d2 : nb xs i = 244
    · exact zr_4B w v xs i h hl hi (by omega) e d2
    · exact zr_4C w v xs i h hl hi (by omega) e ⟨d1, d2⟩
  · exact zr_i w v xs i h hl hi (Or.inr (by omega))
end Go.Proofs.YtlplikpjnocdfaaDoor
