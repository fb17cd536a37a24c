/-
  next, a class of code points at a time.
-/
import Derived.Test.YtocciemgdikmjaaDoorD5
namespace Go.Proofs.YtocciemgdikmjaaDoor
open Go.ChangeShapes Go.WideShapes Go.ChangeAt Go.RowKit
open Go.Lib (decodeN decode_at decodeGo)
set_option linter.unusedVariables false
set_option maxRecDepth 100000 in
set_option maxHeartbeats 8000000 in
theorem nx_32 {w0 w : World} {g : Nat} {s : ByteArray} {C : Nat → Option Value} {p st : Nat} {u k f : Int} (h : Pl w0 w g s C p st u k f) (hp : p ≤ s.size) (hs : s.size ≤ 1048576) (hst : st ≤ p) (hD : Dom s) (hc : cpOf s p = 32) :
    Calls Tryd.prog 63 #[.pointer (some ⟨g, 0, none⟩)] w fun e w' => e = .returned (.tuple #[]) ∧ Go2 w0 w w' g s C (run wsC s p) p 0 38 0 := by
  have HC := Lib.hid hc
  obtain ⟨hl, hb⟩ := cp_is s p hp 32 (by omega) hc
  obtain ⟨E, hE⟩ : ∃ E, run wsC s p = E := ⟨_, rfl⟩
  have HE := Lib.hid (show run wsC s (p + 1) = E by rw [← hE]; exact (run_go wsC s p hl (by rw [hb]; decide)).symm)
  rw [hE]
  have HD := Lib.hid hD; have HB := Lib.hid hb
  clear hE hD hb
  have hsum : (st : Int) + ((p : Int) - (st : Int)) = (p : Int) := by omega
  have HN := Lib.hid (en58 st ((p : Int) - st) (by omega) (by omega) (by omega))
  rw [hsum] at HN
  have H0 := Lib.hid h.go
  obtain ⟨l, c10, c32, c33, c35, c36, c37, fz⟩ := id h.at_
  have c38 := h.c38
  have c39 := h.c39
  have c40 := h.c40
  clear hsum h
  go_enter Tryd.func63, Tryd.ntmps63
  go_wp2_with fail
  refine wp_loop_rounds 1 ?_
  rw [rounds_succ]
  go_upto_block 2 with (go_at_call 58; refine (HN.out _).mono ?_; rintro e w1 ⟨rfl, be⟩; have HG1 := Lib.hid (H0.out.keep be); obtain ⟨l', d10, d32, d33, d35, d36, d37, fz'⟩ := id HG1.out.1.at_; have d38 := HG1.out.1.c38; have d39 := HG1.out.1.c39; have d40 := HG1.out.1.c40; clear be)
  have HG := Lib.hid (rst_go HG1.out)
  clear l c10 c32 c33 c35 c36 c37 fz c38 c39 c40 l' d10 d32 d33 d35 d36 d37 fz' d38 d39 d40 HG1
  unfold rst at HG
  obtain ⟨W, hW⟩ : ∃ W, ((((w1.setCell ⟨g, 36, none⟩ (.int .i32 p)).setCell ⟨g, 37, none⟩ (.int .i32 0)).setCell ⟨g, 38, none⟩ (.int .u16 0)).setCell ⟨g, 39, none⟩ (.int .u8 0)).setCell ⟨g, 40, none⟩ (.int .u8 0) = W := ⟨_, rfl⟩
  rw [hW] at HG ⊢
  clear hW
  obtain ⟨l, c10, c32, c33, c35, c36, c37, fz⟩ := id (HG.out.1.at_)
  have c38 := HG.out.1.c38
  have c39 := HG.out.1.c39
  have c40 := HG.out.1.c40
  rw [hc] at c35
  clear hc
  go_wp2_with fail
  refine (step_plc HG.out.1 hp 32 HC.out (by omega) (by omega) hs (Nat.le_refl p)).mono ?_
  rintro e w2 ⟨rfl, hg⟩
  have HG2 := Lib.hid (HG.out.trans hg)
  clear hg l c10 c32 c33 c35 c36 c37 fz c38 c39 c40
  dsimp only
  go_wp2_with fail
  go_loopg [] (s.size - (p + 1)) (fun n wx => Hid (∃ r, n = s.size - r ∧ r ≤ s.size ∧ p + 1 ≤ r ∧ run wsC s r = E ∧ Go2 w0 w wx g s C r p 0 0 0))
  case atStart => exact Lib.hid ⟨p + 1, rfl, by omega, Nat.le_refl _, HE.out, HG2.out⟩
  case round =>
    obtain ⟨r, hn, hr, hr1, hE, hS⟩ := hrel.out
    have HS := Lib.hid hS; have HEE := Lib.hid (And.intro hn (And.intro hr1 hE))
    obtain ⟨c, hc⟩ : ∃ c, cpOf s r = c := ⟨_, rfl⟩
    obtain ⟨l, c10, c32, c33, c35, c36, c37, fz⟩ := id (HS.out.1.at_)
    have c38 := HS.out.1.c38
    have c39 := HS.out.1.c39
    have c40 := HS.out.1.c40
    rw [hc] at c35
    have hpr : p ≤ r := by omega
    have HWC := Lib.hid (ws_cp s r hr)
    have hc47 : (c == 47) = false := flsI _ _ (by rw [← hc]; exact no47 HD.out r hr)
    rw [hc] at HWC
    clear hrel hn hr1 hE hS hc
    by_cases hd : r < s.size ∧ wsC (byt s r) = true
    · have HWI := Lib.hid (show wsI c = true by rw [HWC.out]; simp [hd])
      have HDD := Lib.hid hd
      clear hd
      go_wp2_with fail
      refine (ws70 _ _).mono ?_
      rintro e w3 ⟨rfl, rfl⟩
      rw [HWI.out]
      dsimp only
      go_wp2_with fail
      refine (step_pla HS.out.1 HDD.out.1 (by have h2 := HDD.out.2; unfold wsC at h2; simp at h2; omega) hs hpr).mono ?_
      rintro e w4 ⟨rfl, hg⟩
      have HG3 := Lib.hid (HS.out.trans hg)
      clear hg
      dsimp only
      go_wp2_with fail
      go_roundg (s.size - (r + 1))
      case measure => have h1 := HEE.out.1; have h2 := HDD.out.1; omega
      case rel => exact Lib.hid ⟨r + 1, rfl, HDD.out.1, by have := HEE.out.2.1; omega, by rw [← run_go wsC s r HDD.out.1 HDD.out.2]; exact HEE.out.2.2, HG3.out⟩
    · have HWI := Lib.hid (show wsI c = false by
        rw [HWC.out]
        by_cases h1 : r < s.size
        · have h2 : wsC (byt s r) = false := by
            cases hx : wsC (byt s r) with
            | false => rfl
            | true => exact absurd ⟨h1, hx⟩ hd
          rw [h2]; simp
        · simp [h1])
      have HEND := Lib.hid (show Go2 w0 w wr g s C E p 0 0 0 by
        have e : r = E := by
          rw [← HEE.out.2.2]
          exact (run_stop wsC s r (fun h1 => by
            cases hx : wsC (byt s r) with
            | false => rfl
            | true => exact absurd ⟨h1, hx⟩ hd)).symm
        rw [← e]; exact HS.out)
      clear hd
      go_wp2_with fail
      refine (ws70 _ _).mono ?_
      rintro e w3 ⟨rfl, rfl⟩
      rw [HWI.out]
      dsimp only
      go_wp2_with fail
      go_region
      all_goals
        go_wp2_with fail
        refine bodyPost_ret (results_none rfl _ _ _) rfl ?_
        exact ⟨rfl, HEND.out.drew.set39 38⟩
set_option maxRecDepth 100000 in
set_option maxHeartbeats 8000000 in
theorem nx_9 {w0 w : World} {g : Nat} {s : ByteArray} {C : Nat → Option Value} {p st : Nat} {u k f : Int} (h : Pl w0 w g s C p st u k f) (hp : p ≤ s.size) (hs : s.size ≤ 1048576) (hst : st ≤ p) (hD : Dom s) (hc : cpOf s p = 9) :
    Calls Tryd.prog 63 #[.pointer (some ⟨g, 0, none⟩)] w fun e w' => e = .returned (.tuple #[]) ∧ Go2 w0 w w' g s C (run wsC s p) p 0 38 0 := by
  have HC := Lib.hid hc
  obtain ⟨hl, hb⟩ := cp_is s p hp 9 (by omega) hc
  obtain ⟨E, hE⟩ : ∃ E, run wsC s p = E := ⟨_, rfl⟩
  have HE := Lib.hid (show run wsC s (p + 1) = E by rw [← hE]; exact (run_go wsC s p hl (by rw [hb]; decide)).symm)
  rw [hE]
  have HD := Lib.hid hD; have HB := Lib.hid hb
  clear hE hD hb
  have hsum : (st : Int) + ((p : Int) - (st : Int)) = (p : Int) := by omega
  have HN := Lib.hid (en58 st ((p : Int) - st) (by omega) (by omega) (by omega))
  rw [hsum] at HN
  have H0 := Lib.hid h.go
  obtain ⟨l, c10, c32, c33, c35, c36, c37, fz⟩ := id h.at_
  have c38 := h.c38
  have c39 := h.c39
  have c40 := h.c40
  clear hsum h
  go_enter Tryd.func63, Tryd.ntmps63
  go_wp2_with fail
  refine wp_loop_rounds 1 ?_
  rw [rounds_succ]
  go_upto_block 2 with (go_at_call 58; refine (HN.out _).mono ?_; rintro e w1 ⟨rfl, be⟩; have HG1 := Lib.hid (H0.out.keep be); obtain ⟨l', d10, d32, d33, d35, d36, d37, fz'⟩ := id HG1.out.1.at_; have d38 := HG1.out.1.c38; have d39 := HG1.out.1.c39; have d40 := HG1.out.1.c40; clear be)
  have HG := Lib.hid (rst_go HG1.out)
  clear l c10 c32 c33 c35 c36 c37 fz c38 c39 c40 l' d10 d32 d33 d35 d36 d37 fz' d38 d39 d40 HG1
  unfold rst at HG
  obtain ⟨W, hW⟩ : ∃ W, ((((w1.setCell ⟨g, 36, none⟩ (.int .i32 p)).setCell ⟨g, 37, none⟩ (.int .i32 0)).setCell ⟨g, 38, none⟩ (.int .u16 0)).setCell ⟨g, 39, none⟩ (.int .u8 0)).setCell ⟨g, 40, none⟩ (.int .u8 0) = W := ⟨_, rfl⟩
  rw [hW] at HG ⊢
  clear hW
  obtain ⟨l, c10, c32, c33, c35, c36, c37, fz⟩ := id (HG.out.1.at_)
  have c38 := HG.out.1.c38
  have c39 := HG.out.1.c39
  have c40 := HG.out.1.c40
  rw [hc] at c35
  clear hc
  go_wp2_with fail
  refine (step_plc HG.out.1 hp 9 HC.out (by omega) (by omega) hs (Nat.le_refl p)).mono ?_
  rintro e w2 ⟨rfl, hg⟩
  have HG2 := Lib.hid (HG.out.trans hg)
  clear hg l c10 c32 c33 c35 c36 c37 fz c38 c39 c40
  dsimp only
  go_wp2_with fail
  go_loopg [] (s.size - (p + 1)) (fun n wx => Hid (∃ r, n = s.size - r ∧ r ≤ s.size ∧ p + 1 ≤ r ∧ run wsC s r = E ∧ Go2 w0 w wx g s C r p 0 0 0))
  case atStart => exact Lib.hid ⟨p + 1, rfl, by omega, Nat.le_refl _, HE.out, HG2.out⟩
  case round =>
    obtain ⟨r, hn, hr, hr1, hE, hS⟩ := hrel.out
    have HS := Lib.hid hS; have HEE := Lib.hid (And.intro hn (And.intro hr1 hE))
    obtain ⟨c, hc⟩ : ∃ c, cpOf s r = c := ⟨_, rfl⟩
    obtain ⟨l, c10, c32, c33, c35, c36, c37, fz⟩ := id (HS.out.1.at_)
    have c38 := HS.out.1.c38
    have c39 := HS.out.1.c39
    have c40 := HS.out.1.c40
    rw [hc] at c35
    have hpr : p ≤ r := by omega
    have HWC := Lib.hid (ws_cp s r hr)
    have hc47 : (c == 47) = false := flsI _ _ (by rw [← hc]; exact no47 HD.out r hr)
    rw [hc] at HWC
    clear hrel hn hr1 hE hS hc
    by_cases hd : r < s.size ∧ wsC (byt s r) = true
    · have HWI := Lib.hid (show wsI c = true by rw [HWC.out]; simp [hd])
      have HDD := Lib.hid hd
      clear hd
      go_wp2_with fail
      refine (ws70 _ _).mono ?_
      rintro e w3 ⟨rfl, rfl⟩
      rw [HWI.out]
      dsimp only
      go_wp2_with fail
      refine (step_pla HS.out.1 HDD.out.1 (by have h2 := HDD.out.2; unfold wsC at h2; simp at h2; omega) hs hpr).mono ?_
      rintro e w4 ⟨rfl, hg⟩
      have HG3 := Lib.hid (HS.out.trans hg)
      clear hg
      dsimp only
      go_wp2_with fail
      go_roundg (s.size - (r + 1))
      case measure => have h1 := HEE.out.1; have h2 := HDD.out.1; omega
      case rel => exact Lib.hid ⟨r + 1, rfl, HDD.out.1, by have := HEE.out.2.1; omega, by rw [← run_go wsC s r HDD.out.1 HDD.out.2]; exact HEE.out.2.2, HG3.out⟩
    · have HWI := Lib.hid (show wsI c = false by
        rw [HWC.out]
        by_cases h1 : r < s.size
        · have h2 : wsC (byt s r) = false := by
            cases hx : wsC (byt s r) with
            | false => rfl
            | true => exact absurd ⟨h1, hx⟩ hd
          rw [h2]; simp
        · simp [h1])
      have HEND := Lib.hid (show Go2 w0 w wr g s C E p 0 0 0 by
        have e : r = E := by
          rw [← HEE.out.2.2]
          exact (run_stop wsC s r (fun h1 => by
            cases hx : wsC (byt s r) with
            | false => rfl
            | true => exact absurd ⟨h1, hx⟩ hd)).symm
        rw [← e]; exact HS.out)
      clear hd
      go_wp2_with fail
      refine (ws70 _ _).mono ?_
      rintro e w3 ⟨rfl, rfl⟩
      rw [HWI.out]
      dsimp only
      go_wp2_with fail
      go_region
      all_goals
        go_wp2_with fail
        refine bodyPost_ret (results_none rfl _ _ _) rfl ?_
        exact ⟨rfl, HEND.out.drew.set39 38⟩
set_option maxRecDepth 100000 in
set_option maxHeartbeats 8000000 in
theorem nx_10 {w0 w : World} {g : Nat} {s : ByteArray} {C : Nat → Option Value} {p st : Nat} {u k f : Int} (h : Pl w0 w g s C p st u k f) (hp : p ≤ s.size) (hs : s.size ≤ 1048576) (hst : st ≤ p) (hD : Dom s) (hc : cpOf s p = 10) :
    Calls Tryd.prog 63 #[.pointer (some ⟨g, 0, none⟩)] w fun e w' => e = .returned (.tuple #[]) ∧ Go2 w0 w w' g s C (run wsC s p) p 0 38 0 := by
  have HC := Lib.hid hc
  obtain ⟨hl, hb⟩ := cp_is s p hp 10 (by omega) hc
  obtain ⟨E, hE⟩ : ∃ E, run wsC s p = E := ⟨_, rfl⟩
  have HE := Lib.hid (show run wsC s (p + 1) = E by rw [← hE]; exact (run_go wsC s p hl (by rw [hb]; decide)).symm)
  rw [hE]
  have HD := Lib.hid hD; have HB := Lib.hid hb
  clear hE hD hb
  have hsum : (st : Int) + ((p : Int) - (st : Int)) = (p : Int) := by omega
  have HN := Lib.hid (en58 st ((p : Int) - st) (by omega) (by omega) (by omega))
  rw [hsum] at HN
  have H0 := Lib.hid h.go
  obtain ⟨l, c10, c32, c33, c35, c36, c37, fz⟩ := id h.at_
  have c38 := h.c38
  have c39 := h.c39
  have c40 := h.c40
  clear hsum h
  go_enter Tryd.func63, Tryd.ntmps63
  go_wp2_with fail
  refine wp_loop_rounds 1 ?_
  rw [rounds_succ]
  go_upto_block 2 with (go_at_call 58; refine (HN.out _).mono ?_; rintro e w1 ⟨rfl, be⟩; have HG1 := Lib.hid (H0.out.keep be); obtain ⟨l', d10, d32, d33, d35, d36, d37, fz'⟩ := id HG1.out.1.at_; have d38 := HG1.out.1.c38; have d39 := HG1.out.1.c39; have d40 := HG1.out.1.c40; clear be)
  have HG := Lib.hid (rst_go HG1.out)
  clear l c10 c32 c33 c35 c36 c37 fz c38 c39 c40 l' d10 d32 d33 d35 d36 d37 fz' d38 d39 d40 HG1
  unfold rst at HG
  obtain ⟨W, hW⟩ : ∃ W, ((((w1.setCell ⟨g, 36, none⟩ (.int .i32 p)).setCell ⟨g, 37, none⟩ (.int .i32 0)).setCell ⟨g, 38, none⟩ (.int .u16 0)).setCell ⟨g, 39, none⟩ (.int .u8 0)).setCell ⟨g, 40, none⟩ (.int .u8 0) = W := ⟨_, rfl⟩
  rw [hW] at HG ⊢
  clear hW
  obtain ⟨l, c10, c32, c33, c35, c36, c37, fz⟩ := id (HG.out.1.at_)
  have c38 := HG.out.1.c38
  have c39 := HG.out.1.c39
  have c40 := HG.out.1.c40
  rw [hc] at c35
  clear hc
  go_wp2_with fail
  refine (step_plc HG.out.1 hp 10 HC.out (by omega) (by omega) hs (Nat.le_refl p)).mono ?_
  rintro e w2 ⟨rfl, hg⟩
  have HG2 := Lib.hid (HG.out.trans hg)
  clear hg l c10 c32 c33 c35 c36 c37 fz c38 c39 c40
  dsimp only
  go_wp2_with fail
  go_loopg [] (s.size - (p + 1)) (fun n wx => Hid (∃ r, n = s.size - r ∧ r ≤ s.size ∧ p + 1 ≤ r ∧ run wsC s r = E ∧ Go2 w0 w wx g s C r p 0 0 0))
  case atStart => exact Lib.hid ⟨p + 1, rfl, by omega, Nat.le_refl _, HE.out, HG2.out⟩
  case round =>
    obtain ⟨r, hn, hr, hr1, hE, hS⟩ := hrel.out
    have HS := Lib.hid hS; have HEE := Lib.hid (And.intro hn (And.intro hr1 hE))
    obtain ⟨c, hc⟩ : ∃ c, cpOf s r = c := ⟨_, rfl⟩
    obtain ⟨l, c10, c32, c33, c35, c36, c37, fz⟩ := id (HS.out.1.at_)
    have c38 := HS.out.1.c38
    have c39 := HS.out.1.c39
    have c40 := HS.out.1.c40
    rw [hc] at c35
    have hpr : p ≤ r := by omega
    have HWC := Lib.hid (ws_cp s r hr)
    have hc47 : (c == 47) = false := flsI _ _ (by rw [← hc]; exact no47 HD.out r hr)
    rw [hc] at HWC
    clear hrel hn hr1 hE hS hc
    by_cases hd : r < s.size ∧ wsC (byt s r) = true
    · have HWI := Lib.hid (show wsI c = true by rw [HWC.out]; simp [hd])
      have HDD := Lib.hid hd
      clear hd
      go_wp2_with fail
      refine (ws70 _ _).mono ?_
      rintro e w3 ⟨rfl, rfl⟩
      rw [HWI.out]
      dsimp only
      go_wp2_with fail
      refine (step_pla HS.out.1 HDD.out.1 (by have h2 := HDD.out.2; unfold wsC at h2; simp at h2; omega) hs hpr).mono ?_
      rintro e w4 ⟨rfl, hg⟩
      have HG3 := Lib.hid (HS.out.trans hg)
      clear hg
      dsimp only
      go_wp2_with fail
      go_roundg (s.size - (r + 1))
      case measure => have h1 := HEE.out.1; have h2 := HDD.out.1; omega
      case rel => exact Lib.hid ⟨r + 1, rfl, HDD.out.1, by have := HEE.out.2.1; omega, by rw [← run_go wsC s r HDD.out.1 HDD.out.2]; exact HEE.out.2.2, HG3.out⟩
    · have HWI := Lib.hid (show wsI c = false by
        rw [HWC.out]
        by_cases h1 : r < s.size
        · have h2 : wsC (byt s r) = false := by
            cases hx : wsC (byt s r) with
            | false => rfl
            | true => exact absurd ⟨h1, hx⟩ hd
          rw [h2]; simp
        · simp [h1])
      have HEND := Lib.hid (show Go2 w0 w wr g s C E p 0 0 0 by
        have e : r = E := by
          rw [← HEE.out.2.2]
          exact (run_stop wsC s r (fun h1 => by
            cases hx : wsC (byt s r) with
            | false => rfl
            | true => exact absurd ⟨h1, hx⟩ hd)).symm
        rw [← e]; exact HS.out)
      clear hd
      go_wp2_with fail
      refine (ws70 _ _).mono ?_
      rintro e w3 ⟨rfl, rfl⟩
      rw [HWI.out]
      dsimp only
      go_wp2_with fail
      go_region
      all_goals
        go_wp2_with fail
        refine bodyPost_ret (results_none rfl _ _ _) rfl ?_
        exact ⟨rfl, HEND.out.drew.set39 38⟩
set_option maxRecDepth 100000 in
set_option maxHeartbeats 8000000 in
theorem nx_13 {w0 w : World} {g : Nat} {s : ByteArray} {C : Nat → Option Value} {p st : Nat} {u k f : Int} (h : Pl w0 w g s C p st u k f) (hp : p ≤ s.size) (hs : s.size ≤ 1048576) (hst : st ≤ p) (hD : Dom s) (hc : cpOf s p = 13) :
    Calls Tryd.prog 63 #[.pointer (some ⟨g, 0, none⟩)] w fun e w' => e = .returned (.tuple #[]) ∧ Go2 w0 w w' g s C (run wsC s p) p 0 38 0 := by
  have HC := Lib.hid hc
  obtain ⟨hl, hb⟩ := cp_is s p hp 13 (by omega) hc
  obtain ⟨E, hE⟩ : ∃ E, run wsC s p = E := ⟨_, rfl⟩
  have HE := Lib.hid (show run wsC s (p + 1) = E by rw [← hE]; exact (run_go wsC s p hl (by rw [hb]; decide)).symm)
  rw [hE]
  have HD := Lib.hid hD; have HB := Lib.hid hb
  clear hE hD hb
  have hsum : (st : Int) + ((p : Int) - (st : Int)) = (p : Int) := by omega
  have HN := Lib.hid (en58 st ((p : Int) - st) (by omega) (by omega) (by omega))
  rw [hsum] at HN
  have H0 := Lib.hid h.go
  obtain ⟨l, c10, c32, c33, c35, c36, c37, fz⟩ := id h.at_
  have c38 := h.c38
  have c39 := h.c39
  have c40 := h.c40
  clear hsum h
  go_enter Tryd.func63, Tryd.ntmps63
  go_wp2_with fail
  refine wp_loop_rounds 1 ?_
  rw [rounds_succ]
  go_upto_block 2 with (go_at_call 58; refine (HN.out _).mono ?_; rintro e w1 ⟨rfl, be⟩; have HG1 := Lib.hid (H0.out.keep be); obtain ⟨l', d10, d32, d33, d35, d36, d37, fz'⟩ := id HG1.out.1.at_; have d38 := HG1.out.1.c38; have d39 := HG1.out.1.c39; have d40 := HG1.out.1.c40; clear be)
  have HG := Lib.hid (rst_go HG1.out)
  clear l c10 c32 c33 c35 c36 c37 fz c38 c39 c40 l' d10 d32 d33 d35 d36 d37 fz' d38 d39 d40 HG1
  unfold rst at HG
  obtain ⟨W, hW⟩ : ∃ W, ((((w1.setCell ⟨g, 36, none⟩ (.int .i32 p)).setCell ⟨g, 37, none⟩ (.int .i32 0)).setCell ⟨g, 38, none⟩ (.int .u16 0)).setCell ⟨g, 39, none⟩ (.int .u8 0)).setCell ⟨g, 40, none⟩ (.int .u8 0) = W := ⟨_, rfl⟩
  rw [hW] at HG ⊢
  clear hW
  obtain ⟨l, c10, c32, c33, c35, c36, c37, fz⟩ := id (HG.out.1.at_)
  have c38 := HG.out.1.c38
  have c39 := HG.out.1.c39
  have c40 := HG.out.1.c40
  rw [hc] at c35
  clear hc
  go_wp2_with fail
  refine (step_plc HG.out.1 hp 13 HC.out (by omega) (by omega) hs (Nat.le_refl p)).mono ?_
  rintro e w2 ⟨rfl, hg⟩
  have HG2 := Lib.hid (HG.out.trans hg)
  clear hg l c10 c32 c33 c35 c36 c37 fz c38 c39 c40
  dsimp only
  go_wp2_with fail
  go_loopg [] (s.size - (p + 1)) (fun n wx => Hid (∃ r, n = s.size - r ∧ r ≤ s.size ∧ p + 1 ≤ r ∧ run wsC s r = E ∧ Go2 w0 w wx g s C r p 0 0 0))
  case atStart => exact Lib.hid ⟨p + 1, rfl, by omega, Nat.le_refl _, HE.out, HG2.out⟩
  case round =>
    obtain ⟨r, hn, hr, hr1, hE, hS⟩ := hrel.out
    have HS := Lib.hid hS; have HEE := Lib.hid (And.intro hn (And.intro hr1 hE))
    obtain ⟨c, hc⟩ : ∃ c, cpOf s r = c := ⟨_, rfl⟩
    obtain ⟨l, c10, c32, c33, c35, c36, c37, fz⟩ := id (HS.out.1.at_)
    have c38 := HS.out.1.c38
    have c39 := HS.out.1.c39
    have c40 := HS.out.1.c40
    rw [hc] at c35
    have hpr : p ≤ r := by omega
    have HWC := Lib.hid (ws_cp s r hr)
    have hc47 : (c == 47) = false := flsI _ _ (by rw [← hc]; exact no47 HD.out r hr)
    rw [hc] at HWC
    clear hrel hn hr1 hE hS hc
    by_cases hd : r < s.size ∧ wsC (byt s r) = true
    · have HWI := Lib.hid (show wsI c = true by rw [HWC.out]; simp [hd])
      have HDD := Lib.hid hd
      clear hd
      go_wp2_with fail
      refine (ws70 _ _).mono ?_
      rintro e w3 ⟨rfl, rfl⟩
      rw [HWI.out]
      dsimp only
      go_wp2_with fail
      refine (step_pla HS.out.1 HDD.out.1 (by have h2 := HDD.out.2; unfold wsC at h2; simp at h2; omega) hs hpr).mono ?_
      rintro e w4 ⟨rfl, hg⟩
      have HG3 := Lib.hid (HS.out.trans hg)
      clear hg
      dsimp only
      go_wp2_with fail
      go_roundg (s.size - (r + 1))
      case measure => have h1 := HEE.out.1; have h2 := HDD.out.1; omega
      case rel => exact Lib.hid ⟨r + 1, rfl, HDD.out.1, by have := HEE.out.2.1; omega, by rw [← run_go wsC s r HDD.out.1 HDD.out.2]; exact HEE.out.2.2, HG3.out⟩
    · have HWI := Lib.hid (show wsI c = false by
        rw [HWC.out]
        by_cases h1 : r < s.size
        · have h2 : wsC (byt s r) = false := by
            cases hx : wsC (byt s r) with
            | false => rfl
            | true => exact absurd ⟨h1, hx⟩ hd
          rw [h2]; simp
        · simp [h1])
      have HEND := Lib.hid (show Go2 w0 w wr g s C E p 0 0 0 by
        have e : r = E := by
          rw [← HEE.out.2.2]
          exact (run_stop wsC s r (fun h1 => by
            cases hx : wsC (byt s r) with
            | false => rfl
            | true => exact absurd ⟨h1, hx⟩ hd)).symm
        rw [← e]; exact HS.out)
      clear hd
      go_wp2_with fail
      refine (ws70 _ _).mono ?_
      rintro e w3 ⟨rfl, rfl⟩
      rw [HWI.out]
      dsimp only
      go_wp2_with fail
      go_region
      all_goals
        go_wp2_with fail
        refine bodyPost_ret (results_none rfl _ _ _) rfl ?_
        exact ⟨rfl, HEND.out.drew.set39 38⟩
set_option maxRecDepth 100000 in
set_option maxHeartbeats 8000000 in
theorem nx_12 {w0 w : World} {g : Nat} {s : ByteArray} {C : Nat → Option Value} {p st : Nat} {u k f : Int} (h : Pl w0 w g s C p st u k f) (hp : p ≤ s.size) (hs : s.size ≤ 1048576) (hst : st ≤ p) (hD : Dom s) (hc : cpOf s p = 12) :
    Calls Tryd.prog 63 #[.pointer (some ⟨g, 0, none⟩)] w fun e w' => e = .returned (.tuple #[]) ∧ Go2 w0 w w' g s C (run wsC s p) p 0 38 0 := by
  have HC := Lib.hid hc
  obtain ⟨hl, hb⟩ := cp_is s p hp 12 (by omega) hc
  obtain ⟨E, hE⟩ : ∃ E, run wsC s p = E := ⟨_, rfl⟩
  have HE := Lib.hid (show run wsC s (p + 1) = E by rw [← hE]; exact (run_go wsC s p hl (by rw [hb]; decide)).symm)
  rw [hE]
  have HD := Lib.hid hD; have HB := Lib.hid hb
  clear hE hD hb
  have hsum : (st : Int) + ((p : Int) - (st : Int)) = (p : Int) := by omega
  have HN := Lib.hid (en58 st ((p : Int) - st) (by omega) (by omega) (by omega))
  rw [hsum] at HN
  have H0 := Lib.hid h.go
  obtain ⟨l, c10, c32, c33, c35, c36, c37, fz⟩ := id h.at_
  have c38 := h.c38
  have c39 := h.c39
  have c40 := h.c40
  clear hsum h
  go_enter Tryd.func63, Tryd.ntmps63
  go_wp2_with fail
  refine wp_loop_rounds 1 ?_
  rw [rounds_succ]
  go_upto_block 2 with (go_at_call 58; refine (HN.out _).mono ?_; rintro e w1 ⟨rfl, be⟩; have HG1 := Lib.hid (H0.out.keep be); obtain ⟨l', d10, d32, d33, d35, d36, d37, fz'⟩ := id HG1.out.1.at_; have d38 := HG1.out.1.c38; have d39 := HG1.out.1.c39; have d40 := HG1.out.1.c40; clear be)
  have HG := Lib.hid (rst_go HG1.out)
  clear l c10 c32 c33 c35 c36 c37 fz c38 c39 c40 l' d10 d32 d33 d35 d36 d37 fz' d38 d39 d40 HG1
  unfold rst at HG
  obtain ⟨W, hW⟩ : ∃ W, ((((w1.setCell ⟨g, 36, none⟩ (.int .i32 p)).setCell ⟨g, 37, none⟩ (.int .i32 0)).setCell ⟨g, 38, none⟩ (.int .u16 0)).setCell ⟨g, 39, none⟩ (.int .u8 0)).setCell ⟨g, 40, none⟩ (.int .u8 0) = W := ⟨_, rfl⟩
  rw [hW] at HG ⊢
  clear hW
  obtain ⟨l, c10, c32, c33, c35, c36, c37, fz⟩ := id (HG.out.1.at_)
  have c38 := HG.out.1.c38
  have c39 := HG.out.1.c39
  have c40 := HG.out.1.c40
  rw [hc] at c35
  clear hc
  go_wp2_with fail
  refine (step_plc HG.out.1 hp 12 HC.out (by omega) (by omega) hs (Nat.le_refl p)).mono ?_
  rintro e w2 ⟨rfl, hg⟩
  have HG2 := Lib.hid (HG.out.trans hg)
  clear hg l c10 c32 c33 c35 c36 c37 fz c38 c39 c40
  dsimp only
  go_wp2_with fail
  go_loopg [] (s.size - (p + 1)) (fun n wx => Hid (∃ r, n = s.size - r ∧ r ≤ s.size ∧ p + 1 ≤ r ∧ run wsC s r = E ∧ Go2 w0 w wx g s C r p 0 0 0))
  case atStart => exact Lib.hid ⟨p + 1, rfl, by omega, Nat.le_refl _, HE.out, HG2.out⟩
  case round =>
    obtain ⟨r, hn, hr, hr1, hE, hS⟩ := hrel.out
    have HS := Lib.hid hS; have HEE := Lib.hid (And.intro hn (And.intro hr1 hE))
    obtain ⟨c, hc⟩ : ∃ c, cpOf s r = c := ⟨_, rfl⟩
    obtain ⟨l, c10, c32, c33, c35, c36, c37, fz⟩ := id (HS.out.1.at_)
    have c38 := HS.out.1.c38
    have c39 := HS.out.1.c39
    have c40 := HS.out.1.c40
    rw [hc] at c35
    have hpr : p ≤ r := by omega
    have HWC := Lib.hid (ws_cp s r hr)
    have hc47 : (c == 47) = false := flsI _ _ (by rw [← hc]; exact no47 HD.out r hr)
    rw [hc] at HWC
    clear hrel hn hr1 hE hS hc
    by_cases hd : r < s.size ∧ wsC (byt s r) = true
    · have HWI := Lib.hid (show wsI c = true by rw [HWC.out]; simp [hd])
      have HDD := Lib.hid hd
      clear hd
      go_wp2_with fail
      refine (ws70 _ _).mono ?_
      rintro e w3 ⟨rfl, rfl⟩
      rw [HWI.out]
      dsimp only
      go_wp2_with fail
      refine (step_pla HS.out.1 HDD.out.1 (by have h2 := HDD.out.2; unfold wsC at h2; simp at h2; omega) hs hpr).mono ?_
      rintro e w4 ⟨rfl, hg⟩
      have HG3 := Lib.hid (HS.out.trans hg)
      clear hg
      dsimp only
      go_wp2_with fail
      go_roundg (s.size - (r + 1))
      case measure => have h1 := HEE.out.1; have h2 := HDD.out.1; omega
      case rel => exact Lib.hid ⟨r + 1, rfl, HDD.out.1, by have := HEE.out.2.1; omega, by rw [← run_go wsC s r HDD.out.1 HDD.out.2]; exact HEE.out.2.2, HG3.out⟩
    · have HWI := Lib.hid (show wsI c = false by
        rw [HWC.out]
        by_cases h1 : r < s.size
        · have h2 : wsC (byt s r) = false := by
            cases hx : wsC (byt s r) with
            | false => rfl
            | true => exact absurd ⟨h1, hx⟩ hd
          rw [h2]; simp
        · simp [h1])
      have HEND := Lib.hid (show Go2 w0 w wr g s C E p 0 0 0 by
        have e : r = E := by
          rw [← HEE.out.2.2]
          exact (run_stop wsC s r (fun h1 => by
            cases hx : wsC (byt s r) with
            | false => rfl
            | true => exact absurd ⟨h1, hx⟩ hd)).symm
        rw [← e]; exact HS.out)
      clear hd
      go_wp2_with fail
      refine (ws70 _ _).mono ?_
      rintro e w3 ⟨rfl, rfl⟩
      rw [HWI.out]
      dsimp only
      go_wp2_with fail
      go_region
      all_goals
        go_wp2_with fail
        refine bodyPost_ret (results_none rfl _ _ _) rfl ?_
        exact ⟨rfl, HEND.out.drew.set39 38⟩
set_option maxRecDepth 100000 in
set_option maxHeartbeats 8000000 in
theorem nx_35a {w0 w : World} {g : Nat} {s : ByteArray} {C : Nat → Option Value} {p st : Nat} {u k f : Int} (h : Pl w0 w g s C p st u k f) (hp : p ≤ s.size) (hs : s.size ≤ 1048576) (hst : st ≤ p) (hD : Dom s) (hc : cpOf s p = 35) (hn : ncB (cpOf s (p + 1)) = true) :
    Calls Tryd.prog 63 #[.pointer (some ⟨g, 0, none⟩)] w fun e w' => e = .returned (.tuple #[]) ∧ Go2 w0 w w' g s C (nmE s (p + 1)) p 0 28 ((if wslA s (p + 1) = true then 1 else 0 : Nat) : Int) := by
  have HC := Lib.hid hc
  obtain ⟨hl, hb⟩ := cp_is s p hp 35 (by omega) hc
  obtain ⟨wb, hwb⟩ : ∃ b, wslA s (p + 1) = b := ⟨_, rfl⟩
  rw [hwb]
  have HWB := Lib.hid hwb; have HNN := Lib.hid hn; have HD := Lib.hid hD
  clear hb hwb hn hD
  have hsum : (st : Int) + ((p : Int) - (st : Int)) = (p : Int) := by omega
  have HN := Lib.hid (en58 st ((p : Int) - st) (by omega) (by omega) (by omega))
  rw [hsum] at HN
  have H0 := Lib.hid h.go
  obtain ⟨l, c10, c32, c33, c35, c36, c37, fz⟩ := id h.at_
  have c38 := h.c38
  have c39 := h.c39
  have c40 := h.c40
  clear hsum h
  go_enter Tryd.func63, Tryd.ntmps63
  go_wp2_with fail
  refine wp_loop_rounds 1 ?_
  rw [rounds_succ]
  go_upto_block 2 with (go_at_call 58; refine (HN.out _).mono ?_; rintro e w1 ⟨rfl, be⟩; have HG1 := Lib.hid (H0.out.keep be); obtain ⟨l', d10, d32, d33, d35, d36, d37, fz'⟩ := id HG1.out.1.at_; have d38 := HG1.out.1.c38; have d39 := HG1.out.1.c39; have d40 := HG1.out.1.c40; clear be)
  have HG := Lib.hid (rst_go HG1.out)
  clear l c10 c32 c33 c35 c36 c37 fz c38 c39 c40 l' d10 d32 d33 d35 d36 d37 fz' d38 d39 d40 HG1
  unfold rst at HG
  obtain ⟨W, hW⟩ : ∃ W, ((((w1.setCell ⟨g, 36, none⟩ (.int .i32 p)).setCell ⟨g, 37, none⟩ (.int .i32 0)).setCell ⟨g, 38, none⟩ (.int .u16 0)).setCell ⟨g, 39, none⟩ (.int .u8 0)).setCell ⟨g, 40, none⟩ (.int .u8 0) = W := ⟨_, rfl⟩
  rw [hW] at HG ⊢
  clear hW
  obtain ⟨l, c10, c32, c33, c35, c36, c37, fz⟩ := id (HG.out.1.at_)
  have c38 := HG.out.1.c38
  have c39 := HG.out.1.c39
  have c40 := HG.out.1.c40
  rw [hc] at c35
  clear hc
  go_wp2_with fail
  refine (step_plc HG.out.1 hp 35 HC.out (by omega) (by omega) hs (Nat.le_refl p)).mono ?_
  rintro e w2 ⟨rfl, hg⟩
  have HG2 := Lib.hid (HG.out.trans hg)
  clear hg l c10 c32 c33 c35 c36 c37 fz c38 c39 c40
  obtain ⟨l, c10, c32, c33, c35, c36, c37, fz⟩ := id (HG2.out.1.at_)
  have c38 := HG2.out.1.c38
  have c39 := HG2.out.1.c39
  have c40 := HG2.out.1.c40
  dsimp only
  go_wp2_with fail
  refine (nc76 _ _).mono ?_
  rintro e w3 ⟨rfl, rfl⟩
  rw [HNN.out]
  have HG3 := Lib.hid (HG2.out.set39 28)
  dsimp only
  go_wp2_with fail
  refine (wsl_any _ g s _ (p + 1 + wid s (p + 1)) (cpOf s (p + 1)) _ _ HG3.out.1.at_ HG3.out.1.tabs (wid_le s (p + 1) (by omega)) hs).mono ?_
  rintro e w4 ⟨rfl, hb4⟩
  have HG4 := Lib.hid (HG3.out.keep hb4)
  rw [show wslB s (p + 1 + wid s (p + 1)) (cpOf s (p + 1)) = wb from HWB.out]
  clear hb4 l c10 c32 c33 c35 c36 c37 fz c38 c39 c40
  obtain ⟨l, c10, c32, c33, c35, c36, c37, fz⟩ := id (HG4.out.1.at_)
  have c38 := HG4.out.1.c38
  have c39 := HG4.out.1.c39
  have c40 := HG4.out.1.c40
  dsimp only
  cases wb with
  | true =>
    have HG5 := Lib.hid (HG4.out.set40 1)
    go_wp2_with fail
    refine (cn66 HG5.out.1 (by omega) hs (by omega) (ive_no HD.out _ _ (nmE_ge s (p + 1) (by omega)).2)).mono ?_
    rintro e w6 ⟨rfl, hg⟩
    have HG6 := Lib.hid (HG5.out.trans hg)
    clear hg
    dsimp only
    go_wp2_with fail
    refine bodyPost_ret (results_none rfl _ _ _) rfl ?_
    exact ⟨rfl, HG6.out⟩
  | false =>
    go_wp2_with fail
    refine (cn66 HG4.out.1 (by omega) hs (by omega) (ive_no HD.out _ _ (nmE_ge s (p + 1) (by omega)).2)).mono ?_
    rintro e w6 ⟨rfl, hg⟩
    have HG6 := Lib.hid (HG4.out.trans hg)
    clear hg
    dsimp only
    go_wp2_with fail
    refine bodyPost_ret (results_none rfl _ _ _) rfl ?_
    exact ⟨rfl, HG6.out⟩
set_option maxRecDepth 100000 in
set_option maxHeartbeats 8000000 in
theorem nx_35b {w0 w : World} {g : Nat} {s : ByteArray} {C : Nat → Option Value} {p st : Nat} {u k f : Int} (h : Pl w0 w g s C p st u k f) (hp : p ≤ s.size) (hs : s.size ≤ 1048576) (hst : st ≤ p) (hD : Dom s) (hc : cpOf s p = 35) (hn : ncB (cpOf s (p + 1)) = false) :
    Calls Tryd.prog 63 #[.pointer (some ⟨g, 0, none⟩)] w fun e w' => e = .returned (.tuple #[]) ∧ Go2 w0 w w' g s C (p + 1) p 0 11 0 := by
  have HC := Lib.hid hc
  obtain ⟨hl, hb⟩ := cp_is s p hp 35 (by omega) hc
  have HNN := Lib.hid hn; have HD := Lib.hid hD
  clear hb hn hD
  have hsum : (st : Int) + ((p : Int) - (st : Int)) = (p : Int) := by omega
  have HN := Lib.hid (en58 st ((p : Int) - st) (by omega) (by omega) (by omega))
  rw [hsum] at HN
  have H0 := Lib.hid h.go
  obtain ⟨l, c10, c32, c33, c35, c36, c37, fz⟩ := id h.at_
  have c38 := h.c38
  have c39 := h.c39
  have c40 := h.c40
  clear hsum h
  go_enter Tryd.func63, Tryd.ntmps63
  go_wp2_with fail
  refine wp_loop_rounds 1 ?_
  rw [rounds_succ]
  go_upto_block 2 with (go_at_call 58; refine (HN.out _).mono ?_; rintro e w1 ⟨rfl, be⟩; have HG1 := Lib.hid (H0.out.keep be); obtain ⟨l', d10, d32, d33, d35, d36, d37, fz'⟩ := id HG1.out.1.at_; have d38 := HG1.out.1.c38; have d39 := HG1.out.1.c39; have d40 := HG1.out.1.c40; clear be)
  have HG := Lib.hid (rst_go HG1.out)
  clear l c10 c32 c33 c35 c36 c37 fz c38 c39 c40 l' d10 d32 d33 d35 d36 d37 fz' d38 d39 d40 HG1
  unfold rst at HG
  obtain ⟨W, hW⟩ : ∃ W, ((((w1.setCell ⟨g, 36, none⟩ (.int .i32 p)).setCell ⟨g, 37, none⟩ (.int .i32 0)).setCell ⟨g, 38, none⟩ (.int .u16 0)).setCell ⟨g, 39, none⟩ (.int .u8 0)).setCell ⟨g, 40, none⟩ (.int .u8 0) = W := ⟨_, rfl⟩
  rw [hW] at HG ⊢
  clear hW
  obtain ⟨l, c10, c32, c33, c35, c36, c37, fz⟩ := id (HG.out.1.at_)
  have c38 := HG.out.1.c38
  have c39 := HG.out.1.c39
  have c40 := HG.out.1.c40
  rw [hc] at c35
  clear hc
  go_wp2_with fail
  refine (step_plc HG.out.1 hp 35 HC.out (by omega) (by omega) hs (Nat.le_refl p)).mono ?_
  rintro e w2 ⟨rfl, hg⟩
  have HG2 := Lib.hid (HG.out.trans hg)
  clear hg l c10 c32 c33 c35 c36 c37 fz c38 c39 c40
  obtain ⟨l, c10, c32, c33, c35, c36, c37, fz⟩ := id (HG2.out.1.at_)
  have c38 := HG2.out.1.c38
  have c39 := HG2.out.1.c39
  have c40 := HG2.out.1.c40
  dsimp only
  go_wp2_with fail
  refine (nc76 _ _).mono ?_
  rintro e w3 ⟨rfl, rfl⟩
  rw [HNN.out]
  dsimp only
  go_wp2_with fail
  refine (ive_any _ g s _ (p + 1 + wid s (p + 1)) (cpOf s (p + 1)) _ _ HG2.out.1.at_ HG2.out.1.tabs (wid_le s (p + 1) (by omega)) hs).mono ?_
  rintro e w4 ⟨rfl, hb4⟩
  have HG4 := Lib.hid (HG2.out.keep hb4)
  rw [ive_no HD.out (p + 1) _ (by omega)]
  clear hb4 l c10 c32 c33 c35 c36 c37 fz c38 c39 c40
  obtain ⟨l, c10, c32, c33, c35, c36, c37, fz⟩ := id (HG4.out.1.at_)
  have c38 := HG4.out.1.c38
  have c39 := HG4.out.1.c39
  have c40 := HG4.out.1.c40
  dsimp only
  go_wp2_with fail
  refine bodyPost_ret (results_none rfl _ _ _) rfl ?_
  exact ⟨rfl, HG4.out.set39 11⟩
end Go.Proofs.YtocciemgdikmjaaDoor
