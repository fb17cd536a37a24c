/-
  consumeEscape.
-/
import Derived.Test.YtocciemgdikmjaaDoorQ1
import Derived.Test.YtocciemgdikmjaaDoorD5
namespace Go.Proofs.YtocciemgdikmjaaDoor
open Go.ChangeShapes Go.WideShapes Go.ChangeAt Go.RowKit
open Go.Lib (decodeN decode_at decodeGo)
set_option linter.unusedVariables false
theorem decN_max (n b0 b1 b2 b3 : Nat) : (decodeN n b0 b1 b2 b3).1 ≤ 1114111 := by
  unfold decodeN
  repeat' split
  all_goals (simp; try omega)
theorem decG_max (x : ByteArray) : (decodeGo x).1 ≤ 1114111 := by
  unfold decodeGo
  split
  · simp
  · rw [decode_at]; exact decN_max _ _ _ _ _
theorem cp_rng (s : ByteArray) (p : Nat) : -1 ≤ cpOf s p ∧ cpOf s p ≤ 1114111 := by
  have := decG_max (s.extract p s.size)
  unfold cpOf
  split <;> omega
set_option maxRecDepth 100000 in
set_option maxHeartbeats 4000000 in
theorem ce86 {w0 w : World} {g : Nat} {s : ByteArray} {C : Nat → Option Value} {p st : Nat} {u k f : Int} (h : Pl w0 w g s C p st u k f) (hp : p < s.size) (hb : byt s p = 92) (hs : s.size ≤ 1048576) (hst : st ≤ p) :
    Calls Tryd.prog 86 #[.pointer (some ⟨g, 0, none⟩)] w fun e w' => e = .returned (.int .i32 ((esc s (p + 1)).1 : Nat)) ∧ Go2 w0 w w' g s C (esc s (p + 1)).2 st u k f := by
  have HS := Lib.hid (step_pla h hp (by omega) hs hst)
  obtain ⟨q, hq⟩ : ∃ q, p + 1 = q := ⟨_, rfl⟩
  have hql : q ≤ s.size := by omega
  have hstq : st ≤ q := by omega
  rw [hq] at HS
  rw [hq]
  obtain ⟨e1, E2, hE⟩ : ∃ a b, esc s q = (a, b) := ⟨_, _, rfl⟩
  rw [hE]
  clear h hb hq hp hst
  go_enter Tryd.func86, Tryd.ntmps86
  go_wp2_with fail
  refine (HS.out).mono ?_
  rintro e w2 ⟨rfl, hg⟩
  have HG2 := Lib.hid hg
  clear hg HS
  obtain ⟨c, hc⟩ : ∃ c, cpOf s q = c := ⟨_, rfl⟩
  have hr := cp_rng s q
  have HX := Lib.hid (fun w => hx106 c (by rw [← hc]; exact hr.1) (by rw [← hc]; exact hr.2) w)
  have hcp := hexI_cp s q hql
  obtain ⟨l, c10, c32, c33, c35, c36, c37, fz⟩ := id HG2.out.1.at_
  rw [hc] at c35 hcp hr
  dsimp only
  go_wp2_with fail
  refine (HX.out _).mono ?_
  rintro e w3 ⟨rfl, rfl⟩
  dsimp only
  cases hx : hexI c with
  | false =>
    rw [hx] at hcp
    by_cases hqs : q < s.size
    · have HE := Lib.hid (show ((e1 : Nat) : Int) = c ∧ E2 = q + wid s q from by
        have h1 : hexI (byt s q : Nat) = false := by have := hcp.1; simpa [hqs] using this.symm
        have h2 : esc s q = ((decodeGo (s.extract q s.size)).1, q + wid s q) := by unfold esc; rw [if_neg (by omega), if_neg (by rw [h1]; simp)]
        rw [hE] at h2
        injection h2 with h3 h4
        have h5 := wid_pos s q hqs
        unfold wid at h5
        refine ⟨?_, h4⟩
        rw [h3, ← hc]
        unfold cpOf
        rw [if_neg (by omega)])
      have d1 : (c == -1) = false := flsI _ _ (by rw [← HE.out.1]; omega)
      have HS2 := Lib.hid (step_pl HG2.out.1 hql hs hstq)
      clear hcp hx hE hc
      go_wp2_with fail
      refine (HS2.out).mono ?_
      rintro e w4 ⟨rfl, hg⟩
      have HG3 := Lib.hid (HG2.out.trans hg)
      clear hg
      dsimp only
      go_wp2_with fail
      go_ret
      exact ⟨by rw [HE.out.1]; rfl, by rw [HE.out.2]; exact HG3.out⟩
    · obtain rfl : q = s.size := by omega
      have d1 : (c == -1) = true := by rw [beq_iff_eq, ← hc]; exact cp_end s
      have HE := Lib.hid (show e1 = 65533 ∧ E2 = s.size from by
        have h2 : esc s s.size = (65533, s.size) := by unfold esc; rw [if_pos (Nat.le_refl _)]
        rw [hE] at h2
        injection h2 with h3 h4
        exact ⟨h3, h4⟩)
      clear hcp hx hE hc
      go_wp2_with fail
      go_ret
      exact ⟨by rw [HE.out.1]; rfl, by rw [HE.out.2]; exact HG2.out⟩
  | true =>
    have hq1 : q < s.size ∧ hexI (byt s q : Nat) = true := by have := hcp.1; rw [hx] at this; simpa using this.symm
    have hcb : c = (byt s q : Int) := hcp.2 hx
    obtain ⟨b, hb⟩ : ∃ b, byt s q = b := ⟨_, rfl⟩
    have hb1 : 48 ≤ b ∧ b ≤ 102 := by have := hq1.2; rw [hb] at this; unfold hexI at this; simp at this; omega
    obtain ⟨v0, hv0⟩ : ∃ v0, (hxI c).toNat = v0 := ⟨_, rfl⟩
    have hxl := hx_le c
    have hv1 : hxI c = (v0 : Int) := by omega
    have hv2 : v0 ≤ 15 := by omega
    obtain ⟨V, F, hVF⟩ : ∃ V F, hexR s 5 (q + 1) v0 = (V, F) := ⟨_, _, rfl⟩
    have hVl := hexR_le s 5 (q + 1) v0 (by omega)
    rw [hVF] at hVl
    have hVb : V ≤ 16777216 := by have h1 := hVl.2.2; dsimp only at h1; omega
    have hFl : q + 1 ≤ F ∧ F ≤ s.size := ⟨hVl.1, hVl.2.1⟩
    have HE := Lib.hid (show e1 = fixV V ∧ E2 = (if wsC (byt s F) = true then F + 1 else F) from by
      have h2 : esc s q = (fixV V, if wsC (byt s F) = true then F + 1 else F) := by
        unfold esc
        rw [if_neg (by omega), if_pos hq1.2, ← hcb, hv0, hVF]
      rw [hE] at h2
      injection h2 with h3 h4
      exact ⟨h3, h4⟩)
    have HS2 := Lib.hid (step_pla HG2.out.1 hq1.1 (by omega) hs hstq)
    rw [hv1]
    have HVF := Lib.hid hVF
    clear hcp hx hE hc hcb hb hVl hv0 hxl hq1 hVF HX
    go_wp2_with fail
    refine (HS2.out).mono ?_
    rintro e w4 ⟨rfl, hg⟩
    have HG3 := Lib.hid (HG2.out.trans hg)
    clear hg l c10 c32 c33 c35 c36 c37 fz hv1
    dsimp only
    go_upto_block 0 with fail
    go_cut [4] (fun hv wx => hv = .int .i64 (V : Nat) ∧ Hid (Go2 w0 w wx g s C F st u k f))
    case first =>
      go_wp2_with fail
      go_loopg [4, 6] 5 (fun n hv iv wx => ∃ i v : Nat, hv = .int .i64 v ∧ iv = .int .i64 i ∧ i ≤ 5 ∧ Hid (n = 5 - i ∧ ∃ r, r ≤ s.size ∧ q + 1 ≤ r ∧ v < 16 ^ (i + 1) ∧ hexR s (5 - i) r v = (V, F) ∧ Go2 w0 w wx g s C r st u k f))
      case atStart => exact ⟨0, v0, rfl, rfl, by omega, Lib.hid ⟨rfl, q + 1, by have := hFl; omega, Nat.le_refl _, by omega, HVF.out, HG3.out⟩⟩
      case round =>
        obtain ⟨i, v, rfl, rfl, hi, HR⟩ := hrel
        obtain ⟨hn, r, hrl, hrq, hvl, hR, hg⟩ := HR.out
        have HG := Lib.hid hg
        by_cases hi5 : i < 5
        case neg =>
          obtain rfl : i = 5 := by omega
          have HX := Lib.hid (show v = V ∧ r = F from by rw [show (5 : Nat) - 5 = 0 from rfl, hexR] at hR; injection hR with a b; exact ⟨a, b⟩)
          clear hR hvl hg HR hn
          go_wp2_with fail
          go_meet
          exact ⟨by rw [HX.out.1], Lib.hid (by rw [← HX.out.2]; exact HG.out)⟩
        obtain ⟨j, hj⟩ : ∃ j, 5 - i = j + 1 := ⟨4 - i, by omega⟩
        rw [hj, hexR] at hR
        have hv6 : v ≤ 1048575 := by
          have h1 : 16 ^ (i + 1) ≤ 16 ^ 5 := Nat.pow_le_pow_right (by omega) (by omega)
          have h2 : (16 : Nat) ^ 5 = 1048576 := by decide
          omega
        obtain ⟨d, hd⟩ : ∃ d, cpOf s r = d := ⟨_, rfl⟩
        have hdr := cp_rng s r
        have HX := Lib.hid (fun w => hx106 d (by rw [← hd]; exact hdr.1) (by rw [← hd]; exact hdr.2) w)
        have hcp := hexI_cp s r hrl
        obtain ⟨l, c10, c32, c33, c35, c36, c37, fz⟩ := id HG.out.1.at_
        rw [hd] at c35 hcp hdr
        have hi5' : (i : Int) < 5 := by omega
        go_wp2_with fail
        refine (HX.out _).mono ?_
        rintro e w5 ⟨rfl, rfl⟩
        dsimp only
        cases hx : hexI d with
        | false =>
          have HX2 := Lib.hid (show v = V ∧ r = F from by
            rw [if_neg (by intro hh; have := hcp.1; rw [hx] at this; simp [hh] at this)] at hR
            injection hR with a b; exact ⟨a, b⟩)
          clear hR hvl hg HR hn hcp hx hd hdr
          go_wp2_with fail
          go_meet
          exact ⟨by rw [HX2.out.1], Lib.hid (by rw [← HX2.out.2]; exact HG.out)⟩
        | true =>
          have hq1 : r < s.size ∧ hexI (byt s r : Nat) = true := by have := hcp.1; rw [hx] at this; simpa using this.symm
          have hcb : d = (byt s r : Int) := hcp.2 hx
          obtain ⟨b2, hb2⟩ : ∃ b, byt s r = b := ⟨_, rfl⟩
          have hb3 : 48 ≤ b2 ∧ b2 ≤ 102 := by have := hq1.2; rw [hb2] at this; unfold hexI at this; simp at this; omega
          rw [if_pos hq1, ← hcb] at hR
          obtain ⟨x, hxx⟩ : ∃ x, (hxI d).toNat = x := ⟨_, rfl⟩
          have hxl := hx_le d
          have hx1 : hxI d = (x : Int) := by omega
          have hx2 : x ≤ 15 := by omega
          rw [hxx] at hR
          have HNX := Lib.hid (show v * 16 + x < 16 ^ (i + 1 + 1) ∧ hexR s (5 - (i + 1)) (r + 1) (v * 16 + x) = (V, F) from ⟨by rw [Nat.pow_succ]; omega, by rw [show 5 - (i + 1) = j by omega]; exact hR⟩)
          have HSR := Lib.hid (step_pla HG.out.1 hq1.1 (by omega) hs (by omega))
          have HQ1 := Lib.hid hq1.1
          have HNN := Lib.hid hn
          rw [hx1]
          clear hR hvl hg HR hn hcp hx hd hdr hq1 hcb hb2 hxl hxx hx1
          go_wp2_with fail
          refine (HSR.out).mono ?_
          rintro e w6 ⟨rfl, hg⟩
          have HG4 := Lib.hid (HG.out.trans hg)
          clear hg l c10 c32 c33 c35 c36 c37 fz
          dsimp only
          go_wp2_with fail
          go_roundg (5 - (i + 1))
          case measure => have := HNN.out; omega
          case rel => exact ⟨i + 1, v * 16 + x, by simp, by simp, by omega, Lib.hid ⟨rfl, r + 1, by have := HQ1.out; omega, by omega, HNX.out.1, HNX.out.2, HG4.out⟩⟩
    obtain ⟨rfl, HG5⟩ := hcut
    obtain ⟨d, hd⟩ : ∃ d, cpOf s F = d := ⟨_, rfl⟩
    have HWC := Lib.hid (ws_cp s F hFl.2)
    obtain ⟨l, c10, c32, c33, c35, c36, c37, fz⟩ := id HG5.out.1.at_
    rw [hd] at c35 HWC
    clear hd
    cases hw : wsC (byt s F) with
    | true =>
      have hFs := wsC_lt s F hw
      have HWI := Lib.hid (show wsI d = true by rw [HWC.out, hw]; simp [hFs])
      have HE2 := Lib.hid (show E2 = F + 1 by rw [HE.out.2, if_pos hw])
      have HSF := Lib.hid (step_pla HG5.out.1 hFs (by unfold wsC at hw; simp at hw; omega) hs (by omega))
      clear hw HWC
      go_wp2_with fail
      refine (ws70 _ _).mono ?_
      rintro e w7 ⟨rfl, rfl⟩
      rw [HWI.out]
      dsimp only
      go_wp2_with fail
      refine (HSF.out).mono ?_
      rintro e w8 ⟨rfl, hg⟩
      have HG6 := Lib.hid (HG5.out.trans hg)
      clear hg l c10 c32 c33 c35 c36 c37 fz
      dsimp only
      by_cases w0 : V = 0
      · have HFX := Lib.hid (show fixV V = 65533 from by unfold fixV; rw [if_pos (by omega)])
        have t1 : ((V : Int) == 0) = true := by rw [beq_iff_eq]; omega
        go_wp2_with fail
        go_ret
        exact ⟨by rw [HE.out.1, HFX.out]; rfl, by rw [HE2.out]; exact HG6.out⟩
      by_cases w1 : V < 55296
      · have HFX := Lib.hid (show fixV V = V from by unfold fixV; rw [if_neg (by omega)])
        have t1 : ((V : Int) == 0) = false := flsI _ _ (by omega)
        have t2 : ¬ (55296 : Int) ≤ (V : Int) := by omega
        have t4 : ¬ (1114111 : Int) < (V : Int) := by omega
        go_wp2_with fail
        go_ret
        exact ⟨by rw [HE.out.1, HFX.out]; rfl, by rw [HE2.out]; exact HG6.out⟩
      by_cases w2 : V ≤ 57343
      · have HFX := Lib.hid (show fixV V = 65533 from by unfold fixV; rw [if_pos (by omega)])
        have t1 : ((V : Int) == 0) = false := flsI _ _ (by omega)
        have t2 : (55296 : Int) ≤ (V : Int) := by omega
        have t3 : (V : Int) ≤ 57343 := by omega
        go_wp2_with fail
        go_ret
        exact ⟨by rw [HE.out.1, HFX.out]; rfl, by rw [HE2.out]; exact HG6.out⟩
      by_cases w3 : V ≤ 1114111
      · have HFX := Lib.hid (show fixV V = V from by unfold fixV; rw [if_neg (by omega)])
        have t1 : ((V : Int) == 0) = false := flsI _ _ (by omega)
        have t2 : (55296 : Int) ≤ (V : Int) := by omega
        have t3 : ¬ (V : Int) ≤ 57343 := by omega
        have t4 : ¬ (1114111 : Int) < (V : Int) := by omega
        go_wp2_with fail
        go_ret
        exact ⟨by rw [HE.out.1, HFX.out]; rfl, by rw [HE2.out]; exact HG6.out⟩
      · have HFX := Lib.hid (show fixV V = 65533 from by unfold fixV; rw [if_pos (by omega)])
        have t1 : ((V : Int) == 0) = false := flsI _ _ (by omega)
        have t2 : (55296 : Int) ≤ (V : Int) := by omega
        have t3 : ¬ (V : Int) ≤ 57343 := by omega
        have t4 : (1114111 : Int) < (V : Int) := by omega
        go_wp2_with fail
        go_ret
        exact ⟨by rw [HE.out.1, HFX.out]; rfl, by rw [HE2.out]; exact HG6.out⟩
    | false =>
      have HWI := Lib.hid (show wsI d = false by rw [HWC.out, hw]; simp)
      have HE2 := Lib.hid (show E2 = F by rw [HE.out.2, if_neg (by rw [hw]; simp)])
      clear hw HWC
      go_wp2_with fail
      refine (ws70 _ _).mono ?_
      rintro e w7 ⟨rfl, rfl⟩
      rw [HWI.out]
      dsimp only
      by_cases w0 : V = 0
      · have HFX := Lib.hid (show fixV V = 65533 from by unfold fixV; rw [if_pos (by omega)])
        have t1 : ((V : Int) == 0) = true := by rw [beq_iff_eq]; omega
        go_wp2_with fail
        go_ret
        exact ⟨by rw [HE.out.1, HFX.out]; rfl, by rw [HE2.out]; exact HG5.out⟩
      by_cases w1 : V < 55296
      · have HFX := Lib.hid (show fixV V = V from by unfold fixV; rw [if_neg (by omega)])
        have t1 : ((V : Int) == 0) = false := flsI _ _ (by omega)
        have t2 : ¬ (55296 : Int) ≤ (V : Int) := by omega
        have t4 : ¬ (1114111 : Int) < (V : Int) := by omega
        go_wp2_with fail
        go_ret
        exact ⟨by rw [HE.out.1, HFX.out]; rfl, by rw [HE2.out]; exact HG5.out⟩
      by_cases w2 : V ≤ 57343
      · have HFX := Lib.hid (show fixV V = 65533 from by unfold fixV; rw [if_pos (by omega)])
        have t1 : ((V : Int) == 0) = false := flsI _ _ (by omega)
        have t2 : (55296 : Int) ≤ (V : Int) := by omega
        have t3 : (V : Int) ≤ 57343 := by omega
        go_wp2_with fail
        go_ret
        exact ⟨by rw [HE.out.1, HFX.out]; rfl, by rw [HE2.out]; exact HG5.out⟩
      by_cases w3 : V ≤ 1114111
      · have HFX := Lib.hid (show fixV V = V from by unfold fixV; rw [if_neg (by omega)])
        have t1 : ((V : Int) == 0) = false := flsI _ _ (by omega)
        have t2 : (55296 : Int) ≤ (V : Int) := by omega
        have t3 : ¬ (V : Int) ≤ 57343 := by omega
        have t4 : ¬ (1114111 : Int) < (V : Int) := by omega
        go_wp2_with fail
        go_ret
        exact ⟨by rw [HE.out.1, HFX.out]; rfl, by rw [HE2.out]; exact HG5.out⟩
      · have HFX := Lib.hid (show fixV V = 65533 from by unfold fixV; rw [if_pos (by omega)])
        have t1 : ((V : Int) == 0) = false := flsI _ _ (by omega)
        have t2 : (55296 : Int) ≤ (V : Int) := by omega
        have t3 : ¬ (V : Int) ≤ 57343 := by omega
        have t4 : (1114111 : Int) < (V : Int) := by omega
        go_wp2_with fail
        go_ret
        exact ⟨by rw [HE.out.1, HFX.out]; rfl, by rw [HE2.out]; exact HG5.out⟩
end Go.Proofs.YtocciemgdikmjaaDoor
