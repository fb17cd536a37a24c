/-
  zzIdentLikeModelB4 tells mdl.
-/
import Derived.Test.YtocciemgdikmjaaDoorQ10
import Derived.Test.YtocciemgdikmjaaDoorQ11
namespace Go.Proofs.YtocciemgdikmjaaDoor
open Go.ChangeShapes Go.WideShapes Go.ChangeAt Go.RowKit
open Go.Lib (decodeN decode_at decodeGo)
set_option linter.unusedVariables false
set_option maxRecDepth 100000 in
theorem u51 (s : ByteArray) (h3 : 3 ≤ s.size) (w : World) : Calls Tryd.prog 51 #[.string (s.extract 0 3)] w fun e w' => e = .returned (.bool (url3 s)) ∧ w = w' := by
  obtain ⟨R, hR⟩ : ∃ R, s.extract 0 3 = R := ⟨_, rfl⟩
  have hRs : R.size = 3 := by rw [← hR]; simp; omega
  have i0 : 0 < R.size := by omega
  have i1 : 1 < R.size := by omega
  have i2 : 2 < R.size := by omega
  obtain ⟨b0, hb0⟩ : ∃ b, (R[0]'i0).toNat = b := ⟨_, rfl⟩
  obtain ⟨b1, hb1⟩ : ∃ b, (R[1]'i1).toNat = b := ⟨_, rfl⟩
  obtain ⟨b2, hb2⟩ : ∃ b, (R[2]'i2).toNat = b := ⟨_, rfl⟩
  have y0 : byt s 0 = b0 := by rw [← hb0, byt_at, ← hR, byt_ext s 0 3 0 (by omega) h3]
  have y1 : byt s 1 = b1 := by rw [← hb1, byt_at, ← hR, byt_ext s 0 3 1 (by omega) h3]
  have y2 : byt s 2 = b2 := by rw [← hb2, byt_at, ← hR, byt_ext s 0 3 2 (by omega) h3]
  have HU := Lib.hid (show url3 s = decide ((b0 = 117 ∨ b0 = 85) ∧ (b1 = 114 ∨ b1 = 82) ∧ (b2 = 108 ∨ b2 = 76)) by unfold url3; rw [y0, y1, y2])
  have g0 : ((R[0]'i0).toNat : Int) = (b0 : Int) := by omega
  have g1 : ((R[1]'i1).toNat : Int) = (b1 : Int) := by omega
  have g2 : ((R[2]'i2).toNat : Int) = (b2 : Int) := by omega
  have hRI : (R.size : Int) = 3 := by omega
  have e3 : ((R.size : Int) != 3) = false := by rw [hRI]; rfl
  rw [hR]
  clear hb0 hb1 hb2 y0 y1 y2 hR hRI
  by_cases u1 : b0 = 117 ∨ b0 = 85
  case neg =>
    have HF := Lib.hid (show url3 s = false by rw [HU.out]; simp [u1])
    have d1 : ((b0 : Int) == 117) = false := fls _ _ (by omega)
    have d2 : ((b0 : Int) == 85) = false := fls _ _ (by omega)
    clear u1
    go_enter Tryd.func51, Tryd.ntmps51
    go_wp2_with fail
    go_ret
    exact ⟨ret_bool HF.out.symm, rfl⟩
  by_cases r1 : b1 = 114 ∨ b1 = 82
  case neg =>
    have HF := Lib.hid (show url3 s = false by rw [HU.out]; simp [r1])
    have d1 : ((b1 : Int) == 114) = false := fls _ _ (by omega)
    have d2 : ((b1 : Int) == 82) = false := fls _ _ (by omega)
    clear r1
    rcases u1 with rfl | rfl
    all_goals
      go_enter Tryd.func51, Tryd.ntmps51
      go_wp2_with fail
      go_ret
      exact ⟨ret_bool HF.out.symm, rfl⟩
  by_cases l1 : b2 = 108 ∨ b2 = 76
  case neg =>
    have HF := Lib.hid (show url3 s = false by rw [HU.out]; simp [l1])
    have d1 : ((b2 : Int) == 108) = false := fls _ _ (by omega)
    have d2 : ((b2 : Int) == 76) = false := fls _ _ (by omega)
    clear l1
    rcases u1 with rfl | rfl <;> rcases r1 with rfl | rfl
    all_goals
      go_enter Tryd.func51, Tryd.ntmps51
      go_wp2_with fail
      go_ret
      exact ⟨ret_bool HF.out.symm, rfl⟩
  have HF := Lib.hid (show url3 s = true by rw [HU.out]; simp [u1, r1, l1])
  rcases u1 with rfl | rfl <;> rcases r1 with rfl | rfl <;> rcases l1 with rfl | rfl
  all_goals
    go_enter Tryd.func51, Tryd.ntmps51
    go_wp2_with fail
    go_ret
    exact ⟨ret_bool HF.out.symm, rfl⟩
def mdlV (t : Nat × Nat × Bool) : Value := .tuple #[.int .i64 (t.1 : Nat), .int .i64 (t.2.1 : Nat), .bool t.2.2]
theorem nbC_run (s : ByteArray) (p : Nat) : run nbC s p = nmE s p := rfl
set_option maxRecDepth 100000 in
set_option maxHeartbeats 8000000 in
theorem em19 (s : ByteArray) (hs : s.size ≤ 1048576) (w : World) : Calls Tryd.prog 19 #[.string s] w fun e w' => e = .returned (mdlV (mdl s)) ∧ Below w.heap.size w w' := by
  have HNB := Lib.hid (fun c w => nb40 c w)
  have HNL := Lib.hid (fun c w => n41 c w)
  have HWS := Lib.hid (fun c w => w52 c w)
  have HPU := Lib.hid (fun c w => pu53 c w)
  obtain ⟨E, hE⟩ : ∃ E, nmE s 0 = E := ⟨_, rfl⟩
  have hEs : E ≤ s.size := by rw [← hE]; exact (nmE_ge s 0 (Nat.zero_le _)).2
  have HM := Lib.hid (show mdl s = mdlE s E by rw [← hE]; rfl)
  have HE := Lib.hid (show run nbC s 0 = E from hE)
  clear hE
  go_enter Tryd.func19, Tryd.ntmps19
  go_upto_block 0 with fail
  go_cut [6] (fun v wx => v = .int .i64 (E : Nat) ∧ w = wx)
  case first =>
    go_wp2_with fail
    go_loopw [6] (fun a w' => ∃ r : Nat, a = .int .i64 r ∧ w = w' ∧ r ≤ s.size ∧ Hid (E = run nbC s r)) (fun a w' => s.size - (intOf a).toNat)
    case atStart => exact ⟨0, rfl, rfl, by omega, Lib.hid HE.out.symm⟩
    case round =>
      obtain ⟨r, rfl, rfl, hr, HR⟩ := hrel
      by_cases hlr : r < s.size
      case neg =>
        have HX := Lib.hid (show E = r by rw [HR.out]; exact run_stop _ s r (fun h => absurd h hlr))
        go_wp2_with fail
        go_meet
        exact ⟨by rw [HX.out], rfl⟩
      obtain ⟨d, hd⟩ : ∃ d, (s[r]'hlr).toNat = d := ⟨_, rfl⟩
      have g1 : ((s[r]'hlr).toNat : Int) = (d : Int) := by omega
      have HDY := Lib.hid (show byt s r = d by rw [← byt_at s r hlr]; exact hd)
      clear hd
      go_wp2_with fail
      refine (HNB.out d _).mono ?_
      rintro e w7 ⟨rfl, rfl⟩
      dsimp only
      cases hgd : nbC d with
      | true =>
        have HS := Lib.hid (show E = run nbC s (r + 1) by rw [HR.out]; exact run_go _ s r hlr (by rw [HDY.out]; exact hgd))
        clear hgd
        go_wp2_with fail
        go_roundw
        case rel => exact ⟨r + 1, by simp, by trivial, by omega, HS⟩
        case measure => simp only [intOf]; omega
      | false =>
        have HX := Lib.hid (show E = r by rw [HR.out]; exact run_stop _ s r (fun _ => by rw [HDY.out]; exact hgd))
        clear hgd
        go_wp2_with fail
        go_meet
        exact ⟨by rw [HX.out], rfl⟩
  obtain ⟨rfl, rfl⟩ := hcut
  by_cases hEl : E < s.size
  case neg =>
    have HF := Lib.hid (show mdl s = (1, E, true) by rw [HM.out]; unfold mdlE; rw [byt_end s E (by omega), if_neg (by omega), if_pos (by omega)])
    go_wp2_with fail
    go_ret3
    exact ⟨by rw [HF.out]; rfl, Below.refl _ _⟩
  obtain ⟨b, hb⟩ : ∃ b, byt s E = b := ⟨_, rfl⟩
  have g0 : ((s[E]'hEl).toNat : Int) = (b : Int) := by have := byt_at s E hEl; omega
  by_cases h92 : b = 92
  · subst h92
    by_cases hE2 : E + 1 < s.size
    case neg =>
      have HF := Lib.hid (show mdl s = (0, 0, false) by rw [HM.out]; unfold mdlE; rw [if_pos ⟨hb, fun hh => hE2 hh.1⟩])
      clear hb
      go_wp2_with fail
      go_ret3
      exact ⟨by rw [HF.out]; rfl, Below.refl _ _⟩
    obtain ⟨d, hd⟩ : ∃ d, byt s (E + 1) = d := ⟨_, rfl⟩
    have g1 : ((s[E + 1]'hE2).toNat : Int) = (d : Int) := by have := byt_at s (E + 1) hE2; omega
    cases hnl : nlC d with
    | true =>
      have HF := Lib.hid (show mdl s = (1, E, true) by rw [HM.out]; unfold mdlE; rw [if_neg (fun hh => hh.2 ⟨hE2, by rw [hd]; exact hnl⟩), if_pos (by omega)])
      have HNV := Lib.hid hnl
      clear hb hd hnl
      go_wp2_with fail
      refine (HNL.out d _).mono ?_
      rintro e w3 ⟨rfl, rfl⟩
      rw [HNV.out]
      dsimp only
      go_wp2_with fail
      go_ret3
      exact ⟨by rw [HF.out]; rfl, Below.refl _ _⟩
    | false =>
      have HF := Lib.hid (show mdl s = (0, 0, false) by rw [HM.out]; unfold mdlE; rw [if_pos ⟨hb, fun hh => by rw [hd, hnl] at hh; simp at hh⟩])
      have HNV := Lib.hid hnl
      clear hb hd hnl
      go_wp2_with fail
      refine (HNL.out d _).mono ?_
      rintro e w3 ⟨rfl, rfl⟩
      rw [HNV.out]
      dsimp only
      go_wp2_with fail
      go_ret3
      exact ⟨by rw [HF.out]; rfl, Below.refl _ _⟩
  have d92 : ((b : Int) == 92) = false := fls _ _ (by omega)
  by_cases h40 : b = 40
  case neg =>
    have HF := Lib.hid (show mdl s = (1, E, true) by rw [HM.out]; unfold mdlE; rw [if_neg (by omega), if_pos (by omega)])
    have d40 : ((b : Int) != 40) = true := by simp; omega
    clear hb h92 h40
    go_wp2_with fail
    go_ret3
    exact ⟨by rw [HF.out]; rfl, Below.refl _ _⟩
  subst h40
  have HM2 := Lib.hid (show mdl s = (if ¬ (E = 3 ∧ url3 s = true) then (2, E + 1, true)
  else if byt s (run wsC s (E + 1)) = 34 ∨ byt s (run wsC s (E + 1)) = 39 then (2, E + 1, true)
  else if byt s (run wsC s (urlE s (run wsC s (E + 1)))) = 41 then (3, run wsC s (urlE s (run wsC s (E + 1))) + 1, true) else (0, 0, false)) by rw [HM.out]; unfold mdlE; rw [if_neg (by omega), if_neg (by omega)])
  clear hb h92 HM
  by_cases hE3 : E = 3
  case neg =>
    have HF := Lib.hid (show mdl s = (2, E + 1, true) by rw [HM2.out, if_pos (fun hh => hE3 hh.1)])
    have d3 : ((E : Int) == 3) = false := fls _ _ (by omega)
    clear hE3
    go_wp2_with fail
    go_ret3
    exact ⟨by rw [HF.out]; rfl, Below.refl _ _⟩
  have HU := Lib.hid (fun w => u51 s (by omega) w)
  subst hE3
  cases hu : url3 s with
  | false =>
    have HF := Lib.hid (show mdl s = (2, 3 + 1, true) by rw [HM2.out, if_pos (fun hh => by rw [hu] at hh; simp at hh)])
    have HUV := Lib.hid hu
    clear hu
    go_wp2_with fail
    refine (HU.out _).mono ?_
    rintro e w3 ⟨rfl, rfl⟩
    rw [HUV.out]
    dsimp only
    go_wp2_with fail
    go_ret3
    exact ⟨by rw [HF.out]; rfl, Below.refl _ _⟩
  | true =>
  have hE1 : 4 ≤ s.size := hEl
  obtain ⟨J, hJ⟩ : ∃ J, run wsC s 4 = J := ⟨_, rfl⟩
  have hJl : J ≤ s.size := by rw [← hJ]; exact run_le wsC s _ hE1
  have HM3 := Lib.hid (show mdl s = (if byt s J = 34 ∨ byt s J = 39 then (2, 4, true)
  else if byt s (run wsC s (urlE s J)) = 41 then (3, run wsC s (urlE s J) + 1, true) else (0, 0, false)) by rw [HM2.out, if_neg (by simp [hu])]; rw [show 3 + 1 = 4 from rfl, hJ])
  have HJ := Lib.hid hJ
  have HUV := Lib.hid hu
  clear hu hJ HM2
  go_wp2_with fail
  refine (HU.out _).mono ?_
  rintro e w3 ⟨rfl, rfl⟩
  rw [HUV.out]
  dsimp only
  go_upto_block 2 with fail
  go_cut [7] (fun v wx => v = .int .i64 (J : Nat) ∧ w = wx)
  case first =>
    go_wp2_with fail
    go_loopw [7] (fun a w' => ∃ r : Nat, a = .int .i64 r ∧ w = w' ∧ r ≤ s.size ∧ Hid (J = run wsC s r)) (fun a w' => s.size - (intOf a).toNat)
    case atStart => exact ⟨4, rfl, rfl, by omega, Lib.hid HJ.out.symm⟩
    case round =>
      obtain ⟨r, rfl, rfl, hr, HR⟩ := hrel
      by_cases hlr : r < s.size
      case neg =>
        have HX := Lib.hid (show J = r by rw [HR.out]; exact run_stop _ s r (fun h => absurd h hlr))
        go_wp2_with fail
        go_meet
        exact ⟨by rw [HX.out], rfl⟩
      obtain ⟨d, hd⟩ : ∃ d, (s[r]'hlr).toNat = d := ⟨_, rfl⟩
      have g1 : ((s[r]'hlr).toNat : Int) = (d : Int) := by omega
      have HDY := Lib.hid (show byt s r = d by rw [← byt_at s r hlr]; exact hd)
      clear hd
      go_wp2_with fail
      refine (HWS.out d _).mono ?_
      rintro e w7 ⟨rfl, rfl⟩
      dsimp only
      cases hgd : wsC d with
      | true =>
        have HS := Lib.hid (show J = run wsC s (r + 1) by rw [HR.out]; exact run_go _ s r hlr (by rw [HDY.out]; exact hgd))
        clear hgd
        go_wp2_with fail
        go_roundw
        case rel => exact ⟨r + 1, by simp, by trivial, by omega, HS⟩
        case measure => simp only [intOf]; omega
      | false =>
        have HX := Lib.hid (show J = r by rw [HR.out]; exact run_stop _ s r (fun _ => by rw [HDY.out]; exact hgd))
        clear hgd
        go_wp2_with fail
        go_meet
        exact ⟨by rw [HX.out], rfl⟩
  obtain ⟨rfl, rfl⟩ := hcut
  go_upto_region 14 with fail
  go_cut [93] (fun v wx => ∃ G, v = .bool G ∧ Hid (decide (byt s J = 34 ∨ byt s J = 39) = G) ∧ w = wx)
  case first =>
    by_cases hJs : J < s.size
    case neg =>
      have HG := Lib.hid (show decide (byt s J = 34 ∨ byt s J = 39) = false by rw [byt_end s J (by omega)]; decide)
      go_wp2_with fail
      go_meet
      exact ⟨false, rfl, HG, rfl⟩
    obtain ⟨d, hd⟩ : ∃ d, byt s J = d := ⟨_, rfl⟩
    have g1 : ((s[J]'hJs).toNat : Int) = (d : Int) := by have := byt_at s J hJs; omega
    by_cases q1 : d = 34
    · have HG := Lib.hid (show decide (byt s J = 34 ∨ byt s J = 39) = true by rw [hd]; simp [q1])
      subst q1
      clear hd
      go_wp2_with fail
      go_meet
      exact ⟨true, rfl, HG, rfl⟩
    have d34 : ((d : Int) == 34) = false := fls _ _ (by omega)
    by_cases q2 : d = 39
    · have HG := Lib.hid (show decide (byt s J = 34 ∨ byt s J = 39) = true by rw [hd]; simp [q2])
      subst q2
      clear hd q1
      go_wp2_with fail
      go_meet
      exact ⟨true, rfl, HG, rfl⟩
    have d39 : ((d : Int) == 39) = false := fls _ _ (by omega)
    have HG := Lib.hid (show decide (byt s J = 34 ∨ byt s J = 39) = false by rw [hd]; simp [q1, q2])
    clear hd q1 q2
    go_wp2_with fail
    go_meet
    exact ⟨false, rfl, HG, rfl⟩
  obtain ⟨G, rfl, HG, rfl⟩ := hcut
  cases G with
  | true =>
    have HF := Lib.hid (show mdl s = (2, 4, true) by rw [HM3.out, if_pos (of_decide_eq_true HG.out)])
    go_wp2_with fail
    go_ret3
    exact ⟨by rw [HF.out]; rfl, Below.refl _ _⟩
  | false =>
  obtain ⟨U, hU⟩ : ∃ U, urlE s J = U := ⟨_, rfl⟩
  have hUl : U ≤ s.size := by rw [← hU]; exact (urlE_le s J hJl).2
  obtain ⟨X, hX⟩ : ∃ X, run wsC s U = X := ⟨_, rfl⟩
  have hXl : X ≤ s.size := by rw [← hX]; exact run_le wsC s U hUl
  have HM4 := Lib.hid (show mdl s = (if byt s X = 41 then (3, X + 1, true) else (0, 0, false)) by rw [HM3.out, if_neg (of_decide_eq_false HG.out), hU, hX])
  have HUU := Lib.hid hU
  have HXX := Lib.hid hX
  have HEM := Lib.hid (fun i (hi : i ≤ s.size) w => em42 s i hi hs w)
  clear hU hX
  go_upto_block 4 with fail
  go_cut [7] (fun v wx => v = .int .i64 (U : Nat) ∧ Hid (Below w.heap.size w wx))
  case first =>
    go_wp2_with fail
    go_loopw [7] (fun a w' => ∃ r : Nat, a = .int .i64 r ∧ r ≤ s.size ∧ Hid (U = urlE s r ∧ Below w.heap.size w w')) (fun a w' => s.size - (intOf a).toNat)
    case atStart => exact ⟨J, rfl, hJl, Lib.hid ⟨HUU.out.symm, Below.refl _ _⟩⟩
    case round =>
      obtain ⟨r, rfl, hr, HR⟩ := hrel
      by_cases hlr : r < s.size
      case neg =>
        have HX := Lib.hid (show U = r by rw [HR.out.1]; exact urlE_stop s r (fun h => absurd h hlr))
        go_wp2_with fail
        go_meet
        exact ⟨by rw [HX.out], Lib.hid HR.out.2⟩
      obtain ⟨d, hd⟩ : ∃ d, byt s r = d := ⟨_, rfl⟩
      have g1 : ((s[r]'hlr).toNat : Int) = (d : Int) := by have := byt_at s r hlr; omega
      have hrI : (r : Int) < (s.size : Int) := by omega
      cases hpd : plnC d with
      | true =>
        have HS := Lib.hid (show U = urlE s (r + 1) ∧ Below w.heap.size w wr by rw [HR.out.1]; exact ⟨urlE_pln s r hlr (by rw [hd]; exact hpd), HR.out.2⟩)
        have HPV := Lib.hid hpd
        clear hpd hd
        go_wp2_with fail
        refine (HPU.out d _).mono ?_
        rintro e w7 ⟨rfl, rfl⟩
        rw [HPV.out]
        dsimp only
        go_wp2_with fail
        go_roundw
        case rel => exact ⟨r + 1, by simp, by omega, HS⟩
        case measure => simp only [intOf]; omega
      | false =>
      have HPV := Lib.hid hpd
      by_cases q92 : d = 92
      case neg =>
        have HX := Lib.hid (show U = r by rw [HR.out.1]; exact urlE_stop s r (fun h => ⟨by rw [hd]; exact hpd, fun hh => q92 (by rw [← hd]; exact hh.1)⟩))
        have d92 : ((d : Int) == 92) = false := fls _ _ (by omega)
        clear hpd hd q92
        go_wp2_with fail
        refine (HPU.out d _).mono ?_
        rintro e w7 ⟨rfl, rfl⟩
        rw [HPV.out]
        dsimp only
        go_wp2_with fail
        go_meet
        exact ⟨by rw [HX.out], Lib.hid HR.out.2⟩
      subst q92
      by_cases hr1 : r + 1 < s.size
      case neg =>
        have HX := Lib.hid (show U = r by rw [HR.out.1]; exact urlE_stop s r (fun h => ⟨by rw [hd]; exact hpd, fun hh => hr1 hh.2.1⟩))
        clear hpd hd
        go_wp2_with fail
        refine (HPU.out 92 _).mono ?_
        rintro e w7 ⟨rfl, rfl⟩
        rw [HPV.out]
        dsimp only
        go_wp2_with fail
        go_meet
        exact ⟨by rw [HX.out], Lib.hid HR.out.2⟩
      obtain ⟨c, hc⟩ : ∃ c, byt s (r + 1) = c := ⟨_, rfl⟩
      have g2 : ((s[r + 1]'hr1).toNat : Int) = (c : Int) := by have := byt_at s (r + 1) hr1; omega
      cases hnl : nlC c with
      | true =>
        have HX := Lib.hid (show U = r by rw [HR.out.1]; exact urlE_stop s r (fun h => ⟨by rw [hd]; exact hpd, fun hh => by have h9 := hh.2.2; rw [hc, hnl] at h9; cases h9⟩))
        have HNV := Lib.hid hnl
        clear hpd hd hnl hc
        go_wp2_with fail
        refine (HPU.out 92 _).mono ?_
        rintro e w7 ⟨rfl, rfl⟩
        rw [HPV.out]
        dsimp only
        go_wp2_with fail
        refine (HNL.out c _).mono ?_
        rintro e w7 ⟨rfl, rfl⟩
        rw [HNV.out]
        dsimp only
        go_wp2_with fail
        go_meet
        exact ⟨by rw [HX.out], Lib.hid HR.out.2⟩
      | false =>
        have hge := esc_ge s (r + 1) (by omega)
        have HS := Lib.hid (show U = urlE s (esc s (r + 1)).2 by rw [HR.out.1]; exact urlE_esc s r hd hr1 (by rw [hc]; exact hnl))
        have HEV := Lib.hid (fun w => HEM.out (r + 1) (by omega) w)
        unfold escV at HEV
        obtain ⟨K1, hK1⟩ : ∃ K1, (esc s (r + 1)).1 = K1 := ⟨_, rfl⟩
        obtain ⟨K2, hK2⟩ : ∃ K2, (esc s (r + 1)).2 = K2 := ⟨_, rfl⟩
        rw [hK1, hK2] at HEV
        rw [hK2] at HS hge
        have HNV := Lib.hid hnl
        clear hpd hd hnl hc hK1 hK2
        go_wp2_with fail
        refine (HPU.out 92 _).mono ?_
        rintro e w7 ⟨rfl, rfl⟩
        rw [HPV.out]
        dsimp only
        go_wp2_with fail
        refine (HNL.out c _).mono ?_
        rintro e w7 ⟨rfl, rfl⟩
        rw [HNV.out]
        dsimp only
        go_wp2_with fail
        refine (HEV.out _).mono ?_
        rintro e w8 ⟨rfl, be⟩
        have HB8 := Lib.hid (HR.out.2.trans (be.mono HR.out.2.size))
        clear be
        dsimp only
        go_wp2_with fail
        go_roundw
        case rel => exact ⟨K2, by trivial, by omega, Lib.hid ⟨HS.out, HB8.out⟩⟩
        case measure => simp only [intOf]; omega
  obtain ⟨rfl, HB⟩ := hcut
  go_upto_block 6 with fail
  go_cut [7] (fun v wx => v = .int .i64 (X : Nat) ∧ Hid (Below w.heap.size w wx))
  case first =>
    go_wp2_with fail
    go_loopw [7] (fun a w' => ∃ r : Nat, a = .int .i64 r ∧ r ≤ s.size ∧ Hid (X = run wsC s r ∧ Below w.heap.size w w')) (fun a w' => s.size - (intOf a).toNat)
    case atStart => exact ⟨U, rfl, hUl, Lib.hid ⟨HXX.out.symm, HB.out⟩⟩
    case round =>
      obtain ⟨r, rfl, hr, HR⟩ := hrel
      by_cases hlr : r < s.size
      case neg =>
        have HX := Lib.hid (show X = r by rw [HR.out.1]; exact run_stop _ s r (fun h => absurd h hlr))
        go_wp2_with fail
        go_meet
        exact ⟨by rw [HX.out], Lib.hid HR.out.2⟩
      obtain ⟨d, hd⟩ : ∃ d, (s[r]'hlr).toNat = d := ⟨_, rfl⟩
      have g1 : ((s[r]'hlr).toNat : Int) = (d : Int) := by omega
      have HDY := Lib.hid (show byt s r = d by rw [← byt_at s r hlr]; exact hd)
      clear hd
      go_wp2_with fail
      refine (HWS.out d _).mono ?_
      rintro e w7 ⟨rfl, rfl⟩
      dsimp only
      cases hgd : wsC d with
      | true =>
        have HS := Lib.hid (show X = run wsC s (r + 1) ∧ Below w.heap.size w wr by rw [HR.out.1]; exact ⟨run_go _ s r hlr (by rw [HDY.out]; exact hgd), HR.out.2⟩)
        clear hgd
        go_wp2_with fail
        go_roundw
        case rel => exact ⟨r + 1, by simp, by omega, HS⟩
        case measure => simp only [intOf]; omega
      | false =>
        have HX := Lib.hid (show X = r by rw [HR.out.1]; exact run_stop _ s r (fun _ => by rw [HDY.out]; exact hgd))
        clear hgd
        go_wp2_with fail
        go_meet
        exact ⟨by rw [HX.out], Lib.hid HR.out.2⟩
  obtain ⟨rfl, HB2⟩ := hcut
  by_cases hXs : X < s.size
  case neg =>
    have HF := Lib.hid (show mdl s = (0, 0, false) by rw [HM4.out, byt_end s X (by omega), if_neg (by omega)])
    go_wp2_with fail
    go_ret3
    exact ⟨by rw [HF.out]; rfl, HB2.out⟩
  obtain ⟨d, hd⟩ : ∃ d, byt s X = d := ⟨_, rfl⟩
  have g1 : ((s[X]'hXs).toNat : Int) = (d : Int) := by have := byt_at s X hXs; omega
  have hXI : ¬ (s.size : Int) ≤ (X : Int) := by omega
  by_cases q41 : d = 41
  · have HF := Lib.hid (show mdl s = (3, X + 1, true) by rw [HM4.out, hd, if_pos q41])
    subst q41
    clear hd
    go_wp2_with fail
    go_ret3
    exact ⟨by rw [HF.out]; rfl, HB2.out⟩
  · have HF := Lib.hid (show mdl s = (0, 0, false) by rw [HM4.out, hd, if_neg q41])
    have d41 : ((d : Int) != 41) = true := by simp; omega
    clear hd q41
    go_wp2_with fail
    go_ret3
    exact ⟨by rw [HF.out]; rfl, HB2.out⟩
end Go.Proofs.YtocciemgdikmjaaDoor
