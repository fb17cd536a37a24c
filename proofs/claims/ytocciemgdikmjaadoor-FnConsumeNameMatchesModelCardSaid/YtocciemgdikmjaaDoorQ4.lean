/-
  consumeURL of a url that ends well.
-/
import Derived.Test.YtocciemgdikmjaaDoorQ3
import Derived.WalkMore
namespace Go.Proofs.YtocciemgdikmjaaDoor
open Go.ChangeShapes Go.WideShapes Go.ChangeAt Go.RowKit
open Go.Lib (decodeN decode_at decodeGo)
set_option linter.unusedVariables false
theorem nlAt_C (s : ByteArray) (p : Nat) (h : p < s.size) : nlAt s p = nlC (byt s p) := by
  rw [nlAt_byte s p h, byt_at]
  unfold nlB nlC
  rw [Bool.eq_iff_iff]; simp; omega
set_option maxRecDepth 100000 in
set_option maxHeartbeats 8000000 in
theorem cu71 {w0 w : World} {g : Nat} {s : ByteArray} {C : Nat → Option Value} {p st : Nat} {u k f : Int} (h : Pl w0 w g s C p st u k f) (hp : p ≤ s.size) (hs : s.size ≤ 1048576) (hst : st ≤ p) (hok : urlOk s p) (m : Int) :
    Calls Tryd.prog 71 #[.pointer (some ⟨g, 0, none⟩), .agg #[.int .i32 m]] w fun e w' => e = .returned (.int .u8 37) ∧ Go2 w0 w w' g s C (run wsC s (urlE s p) + 1) st u k f := by
  obtain ⟨E, hE⟩ : ∃ E, run wsC s (urlE s p) = E := ⟨_, rfl⟩
  unfold urlOk at hok
  rw [hE] at hok
  rw [hE]
  have HOK := Lib.hid hok
  have HE := Lib.hid hE
  have H0 := Lib.hid (h.go.keep ((Below.refl w.heap.size w).alloc (Nat.le_refl _) (.cells #[.int .i32 m] 28)))
  clear h hok hE
  go_enter Tryd.func71, Tryd.ntmps71
  go_wp2_with fail
  go_step3
  go_wp2_with fail
  go_step3
  go_wp2_with fail
  go_loopg [] (s.size - p) (fun n wx => Hid (∃ r, n = s.size - r ∧ r ≤ s.size ∧ st ≤ r ∧ run wsC s (urlE s r) = E ∧ Go2 w0 w wx g s C r st u k f))
  case atStart => exact Lib.hid ⟨p, rfl, hp, hst, HE.out, H0.out⟩
  case round =>
    obtain ⟨r, hn, hr, hsr, hE, hS⟩ := hrel.out
    have HS := Lib.hid hS
    have HN := Lib.hid hn
    have HEE := Lib.hid hE
    have hstop : ¬ (r < s.size ∧ plnC (byt s r) = true) → ¬ (byt s r = 92 ∧ r + 1 < s.size ∧ nlC (byt s (r + 1)) = false) → run wsC s r = E := fun h1 h2 => by
      rw [← hE, urlE_stop s r (fun hl => ⟨by have : ¬ plnC (byt s r) = true := fun hh => h1 ⟨hl, hh⟩; simpa using this, h2⟩)]
    have hrs : r < s.size := by
      by_cases hl : r < s.size
      · exact hl
      · have h1 := hstop (fun hh => hl hh.1) (fun hh => hl (by omega))
        rw [run_stop wsC s r (fun hh => absurd hh hl)] at h1
        have := HOK.out.1; omega
    obtain ⟨b, hb⟩ : ∃ b, byt s r = b := ⟨_, rfl⟩
    obtain ⟨c, hc⟩ : ∃ c, cpOf s r = c := ⟨_, rfl⟩
    obtain ⟨l, c10, c32, c33, c35, c36, c37, fz⟩ := id HS.out.1.at_
    have HAT := Lib.hid HS.out.1.at_
    unfold At at HAT
    rw [hc] at c35 HAT
    rw [hb] at hstop
    have HST := Lib.hid hstop
    have HB := Lib.hid hb
    clear hrel hn hE hS hstop
    by_cases hb128 : b < 128
    case neg =>
      have hc128 : 128 ≤ c := by rw [← hc]; exact cp_hi s r hrs (by omega)
      have HNP := Lib.hid (show npI c = false by unfold npI; simp; omega)
      have HNX := Lib.hid (show run wsC s (urlE s (r + wid s r)) = E by rw [← urlE_wid s r hrs (by rw [hb]; omega)]; exact HEE.out)
      have hw1 := wid_pos s r hrs
      have hw2 := wid_le s r hr
      have HSP := Lib.hid (step_pl HS.out.1 hr hs hsr)
      obtain ⟨R, hR⟩ : ∃ R, r + wid s r = R := ⟨_, rfl⟩
      rw [hR] at HNX HSP hw2
      have hRr : r < R := by omega
      have d41 : (c == 41) = false := flsI _ _ (by omega)
      have dm1 : (c == -1) = false := flsI _ _ (by omega)
      have d32 : (c == 32) = false := flsI _ _ (by omega)
      have d9 : (c == 9) = false := flsI _ _ (by omega)
      have d10 : (c == 10) = false := flsI _ _ (by omega)
      have d13 : (c == 13) = false := flsI _ _ (by omega)
      have d12 : (c == 12) = false := flsI _ _ (by omega)
      have d34 : (c == 34) = false := flsI _ _ (by omega)
      have d39 : (c == 39) = false := flsI _ _ (by omega)
      have d40 : (c == 40) = false := flsI _ _ (by omega)
      have d92 : (c == 92) = false := flsI _ _ (by omega)
      clear hb hc hR hw1 HAT
      go_wp2_with fail
      refine (np91 _ _).mono ?_
      rintro e w3 ⟨rfl, rfl⟩
      rw [HNP.out]
      dsimp only
      go_wp2_with fail
      refine (HSP.out).mono ?_
      rintro e w4 ⟨rfl, hg⟩
      have HG := Lib.hid (HS.out.trans hg)
      clear hg
      dsimp only
      go_wp2_with fail
      go_roundg (s.size - R)
      case measure => have := HN.out; omega
      case rel => exact Lib.hid ⟨R, rfl, hw2, by omega, HNX.out, HG.out⟩
    have hcb : c = (b : Int) := by rw [← hc, ← hb]; exact cp_asc s r hrs (by omega)
    have HSP := Lib.hid (step_pla HS.out.1 hrs (by omega) hs hsr)
    have HNS := Lib.hid (fun (hw : wsC b = false) (h2 : plnC b = false) (h3 : ¬ (b = 92 ∧ r + 1 < s.size ∧ nlC (byt s (r + 1)) = false)) => show r = E from by have h1 := HST.out (fun hh => by rw [h2] at hh; simp at hh) h3; rw [run_stop wsC s r (fun _ => by rw [hb]; exact hw)] at h1; exact h1)
    by_cases b41 : b = 41
    · subst b41
      have HX := Lib.hid (HNS.out (by decide) (by decide) (by omega))
      have d41 : (c == 41) = true := by rw [hcb]; decide
      clear hb hc HAT
      go_wp2_with fail
      refine (HSP.out).mono ?_
      rintro e w4 ⟨rfl, hg⟩
      have HG := Lib.hid (HS.out.trans hg)
      clear hg
      dsimp only
      go_wp2_with fail
      (try simp only [Exit.inBlock, Exit.then])
      (try rw [Exit.noGoto_ret])
      (try simp only [Exit.inBlock, Exit.then])
      (try simp +zetaDelta only)
      go_ret
      exact ⟨rfl, by rw [← HX.out]; exact HG.out⟩
    by_cases b34 : b = 34
    · exfalso
      have h1 := HNS.out (by rw [b34]; decide) (by rw [b34]; decide) (by omega)
      have h2 := HOK.out.2
      rw [← h1, hb] at h2
      omega
    by_cases b39 : b = 39
    · exfalso
      have h1 := HNS.out (by rw [b39]; decide) (by rw [b39]; decide) (by omega)
      have h2 := HOK.out.2
      rw [← h1, hb] at h2
      omega
    by_cases b40 : b = 40
    · exfalso
      have h1 := HNS.out (by rw [b40]; decide) (by rw [b40]; decide) (by omega)
      have h2 := HOK.out.2
      rw [← h1, hb] at h2
      omega
    by_cases bw : wsC b = true
    · have hrun : run wsC s (r + 1) = E := by rw [← run_go wsC s r hrs (by rw [hb]; exact bw)]; exact HST.out (fun hh => by have h9 := hh.2; unfold plnC at h9; rw [bw] at h9; simp at h9) (fun hh => by have h9 := hh.1; rw [h9] at bw; exact absurd bw (by decide))
      have HRN := Lib.hid hrun
      have hbw : b = 32 ∨ b = 9 ∨ b = 10 ∨ b = 13 ∨ b = 12 := by unfold wsC at bw; simpa using bw
      clear hrun bw b41 b34 b39 b40 HNS HST
      rcases hbw with rfl | rfl | rfl | rfl | rfl
      all_goals
        subst hcb
        clear hb hc HAT
        go_wp2_with fail
        refine (HSP.out).mono ?_
        rintro e w4 ⟨rfl, hg⟩
        have HG := Lib.hid (HS.out.trans hg)
        clear hg l c10 c32 c33 c35 c36 c37 fz
        dsimp only
        go_wp2_with fail
        go_loopg [] (s.size - (r + 1)) (fun n wx => Hid (∃ t, n = s.size - t ∧ t ≤ s.size ∧ st ≤ t ∧ run wsC s t = E ∧ Go2 w0 w wx g s C t st u k f))
        case atStart => exact Lib.hid ⟨r + 1, rfl, by omega, by omega, HRN.out, HG.out⟩
        case round =>
          obtain ⟨t, hnt, htl, hstt, htE, hgt⟩ := hrel.out
          have HGT := Lib.hid hgt
          have HNT := Lib.hid hnt
          have HTE := Lib.hid htE
          obtain ⟨d, hd⟩ : ∃ d, cpOf s t = d := ⟨_, rfl⟩
          have HWC := Lib.hid (ws_cp s t htl)
          obtain ⟨l, c10, c32, c33, c35, c36, c37, fz⟩ := id HGT.out.1.at_
          rw [hd] at c35 HWC
          clear hrel hnt hgt htE
          by_cases hdw : t < s.size ∧ wsC (byt s t) = true
          · have HWI := Lib.hid (show wsI d = true by rw [HWC.out]; simp [hdw])
            have HST2 := Lib.hid (step_pla HGT.out.1 hdw.1 (by have h9 := hdw.2; unfold wsC at h9; simp at h9; omega) hs hstt)
            have HTN := Lib.hid (show run wsC s (t + 1) = E by rw [← run_go wsC s t hdw.1 hdw.2]; exact HTE.out)
            have ht1 : t < s.size := hdw.1
            clear hdw HWC hd
            go_wp2_with fail
            refine (ws70 _ _).mono ?_
            rintro e w5 ⟨rfl, rfl⟩
            rw [HWI.out]
            dsimp only
            go_wp2_with fail
            refine (HST2.out).mono ?_
            rintro e w6 ⟨rfl, hg⟩
            have HG6 := Lib.hid (HGT.out.trans hg)
            clear hg l c10 c32 c33 c35 c36 c37 fz
            dsimp only
            go_wp2_with fail
            go_roundg (s.size - (t + 1))
            case measure => have := HNT.out; omega
            case rel => exact Lib.hid ⟨t + 1, rfl, by omega, by omega, HTN.out, HG6.out⟩
          · have HWI := Lib.hid (show wsI d = false by rw [HWC.out]; by_cases h9 : t < s.size; (have h8 : wsC (byt s t) = false := by (have : ¬ wsC (byt s t) = true := fun hh => hdw ⟨h9, hh⟩); simpa using this); rw [h8]; simp; simp [h9])
            have htE2 : t = E := by rw [← HTE.out, run_stop wsC s t (fun h9 => by have : ¬ wsC (byt s t) = true := fun hh => hdw ⟨h9, hh⟩; simpa using this)]
            subst htE2
            have hd41 : d = 41 := by rw [← hd, cp_asc s t HOK.out.1 (by rw [HOK.out.2]; omega), HOK.out.2]; rfl
            subst hd41
            have HST2 := Lib.hid (step_pla HGT.out.1 HOK.out.1 (by rw [HOK.out.2]; omega) hs hstt)
            clear hdw HWC hd
            go_wp2_with fail
            refine (ws70 _ _).mono ?_
            rintro e w5 ⟨rfl, rfl⟩
            rw [HWI.out]
            dsimp only
            go_wp2_with fail
            refine (HST2.out).mono ?_
            rintro e w6 ⟨rfl, hg⟩
            have HG6 := Lib.hid (HGT.out.trans hg)
            clear hg l c10 c32 c33 c35 c36 c37 fz
            dsimp only
            go_wp2_with fail
            (try simp only [Exit.inBlock, Exit.then])
            (try rw [Exit.noGoto_ret])
            (try simp only [Exit.inBlock, Exit.then])
            (try simp +zetaDelta only)
            go_ret
            exact ⟨rfl, HG6.out⟩
    have bw' : wsC b = false := by simpa using bw
    by_cases b92 : b = 92
    · subst b92
      have hv : r + 1 < s.size ∧ nlC (byt s (r + 1)) = false := by
        by_cases hv : r + 1 < s.size ∧ nlC (byt s (r + 1)) = false
        · exact hv
        · exfalso
          have h1 := HNS.out (by decide) (by decide) (fun hh => hv hh.2)
          have h2 := HOK.out.2
          rw [← h1, hb] at h2
          omega
      have hwid : wid s r = 1 := wid_asc s r hrs (by omega)
      have HIV := Lib.hid (show iveB s (r + wid s r) c = true by unfold iveB; rw [hwid, nlAt_C s (r + 1) hv.1, hv.2, hcb]; decide)
      have HCE := Lib.hid (fun W (hb2 : Below _ _ W) => ce86 (HS.out.keep hb2).1 hrs hb hs hsr)
      have HNX := Lib.hid (show run wsC s (urlE s (esc s (r + 1)).2) = E by rw [← urlE_esc s r hb hv.1 hv.2]; exact HEE.out)
      have hge := esc_ge s (r + 1) (by omega)
      have HIA := Lib.hid (ive_any _ g s _ (r + wid s r) c _ _ HAT.out HS.out.1.tabs (wid_le s r hr) hs)
      rw [HIV.out] at HIA
      obtain ⟨R, hR⟩ : ∃ R, (esc s (r + 1)).2 = R := ⟨_, rfl⟩
      rw [hR] at HNX hge HCE
      subst hcb
      clear hb hc hwid hR hv b41 b34 b39 b40 bw bw' HNS HST HAT HSP
      go_wp2_with fail
      refine (HIA.out).mono ?_
      rintro e w5 ⟨rfl, be⟩
      have HB5 := Lib.hid be
      clear be
      dsimp only
      go_wp2_with fail
      refine (HCE.out _ HB5.out).mono ?_
      rintro e w6 ⟨rfl, hg⟩
      have HG6 := Lib.hid ((HS.out.keep HB5.out).trans hg)
      clear hg
      dsimp only
      go_wp2_with fail
      go_roundg (s.size - R)
      case measure => have := HN.out; omega
      case rel => exact Lib.hid ⟨R, rfl, hge.2, by omega, HNX.out, HG6.out⟩
    have HNP := Lib.hid (show npI c = false from by
      cases hnp : npI (b : Int) with
      | false => rw [hcb]; exact hnp
      | true =>
        exfalso
        have h1 := HNS.out bw' (by unfold plnC; rw [hnp]; simp) (by omega)
        have h2 := HOK.out.2
        rw [← h1, hb] at h2
        omega)
    have HNX := Lib.hid (show run wsC s (urlE s (r + 1)) = E by rw [← urlE_pln s r hrs (by have h9 := HNP.out; rw [hcb] at h9; rw [hb]; unfold plnC; rw [h9, bw']; simp; omega)]; exact HEE.out)
    have hw9 : ¬ (b = 32 ∨ b = 9 ∨ b = 10 ∨ b = 13 ∨ b = 12) := by unfold wsC at bw'; simpa using bw'
    have d41 : (c == 41) = false := flsI _ _ (by omega)
    have dm1 : (c == -1) = false := flsI _ _ (by omega)
    have d32 : (c == 32) = false := flsI _ _ (by omega)
    have d9 : (c == 9) = false := flsI _ _ (by omega)
    have d10 : (c == 10) = false := flsI _ _ (by omega)
    have d13 : (c == 13) = false := flsI _ _ (by omega)
    have d12 : (c == 12) = false := flsI _ _ (by omega)
    have d34 : (c == 34) = false := flsI _ _ (by omega)
    have d39 : (c == 39) = false := flsI _ _ (by omega)
    have d40 : (c == 40) = false := flsI _ _ (by omega)
    have d92 : (c == 92) = false := flsI _ _ (by omega)
    clear hb hc hcb HAT bw bw' hw9 HNS HST b41 b34 b39 b40 b92
    go_wp2_with fail
    refine (np91 _ _).mono ?_
    rintro e w3 ⟨rfl, rfl⟩
    rw [HNP.out]
    dsimp only
    go_wp2_with fail
    refine (HSP.out).mono ?_
    rintro e w4 ⟨rfl, hg⟩
    have HG := Lib.hid (HS.out.trans hg)
    clear hg
    dsimp only
    go_wp2_with fail
    go_roundg (s.size - (r + 1))
    case measure => have := HN.out; omega
    case rel => exact Lib.hid ⟨r + 1, rfl, by omega, by omega, HNX.out, HG.out⟩
end Go.Proofs.YtocciemgdikmjaaDoor
