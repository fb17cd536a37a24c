/-
  consumeNumeric.
-/
import Derived.Test.YtocciemgdikmjaaDoorD2
import Derived.Deep.CutBlock
namespace Go.Proofs.YtocciemgdikmjaaDoor
open Go.ChangeShapes Go.WideShapes Go.ChangeAt Go.RowKit
open Go.Lib (decodeN decode_at decodeGo)
set_option linter.unusedVariables false
theorem dig_cp (s : ByteArray) (q : Nat) (hq : q ≤ s.size) : (48 ≤ cpOf s q ∧ cpOf s q ≤ 57) ↔ (q < s.size ∧ digC (byt s q) = true) := by
  by_cases hl : q < s.size
  · by_cases hb : byt s q < 128
    · rw [cp_asc s q hl hb]; unfold digC; simp; omega
    · have := cp_hi s q hl (by omega); unfold digC; simp; omega
  · obtain rfl : q = s.size := by omega
    rw [cp_end]; simp
theorem dgE_go (s : ByteArray) (q : Nat) (hq : q < s.size) (h : digC (byt s q) = true) : dgE s q = dgE s (q + 1) := run_go digC s q hq h
theorem dgE_stop (s : ByteArray) (q : Nat) (h : ¬ (q < s.size ∧ digC (byt s q) = true)) : dgE s q = q := run_stop digC s q (fun hl => by
  cases hb : digC (byt s q) with
  | false => rfl
  | true => exact absurd ⟨hl, hb⟩ h)
theorem is_cp (s : ByteArray) (q : Nat) (hq : q ≤ s.size) (c : Nat) (hc : c < 128) (h0 : c ≠ 0) : cpOf s q = (c : Int) ↔ byt s q = c := by
  constructor
  · intro e; exact (cp_is s q hq c hc e).2
  · intro e
    have hl := byt_lt_size s q (by omega)
    rw [cp_asc s q hl (by omega), e]
theorem sg_cp (s : ByteArray) (q : Nat) (hq : q ≤ s.size) : (cpOf s q = 43 ∨ cpOf s q = 45) ↔ (byt s q = 43 ∨ byt s q = 45) := by
  have h1 := is_cp s q hq 43 (by omega) (by omega)
  have h2 := is_cp s q hq 45 (by omega) (by omega)
  exact or_congr h1 h2
def St (w0 w : World) (g : Nat) (s : ByteArray) (C : Nat → Option Value) (st : Nat) (u k f : Int) (q : Nat) (w' : World) : Prop := Go2 w0 w w' g s C q st u k f

set_option maxRecDepth 100000 in
set_option maxHeartbeats 8000000 in
theorem cnum80 {w0 w : World} {g : Nat} {s : ByteArray} {C : Nat → Option Value} {p st : Nat} {u k f : Int} (h : Pl w0 w g s C p st u k f) (hp : p ≤ s.size) (hs : s.size ≤ 1048576) (hst : st ≤ p) (hD : Dom s) (hu : u = 0) :
    Calls Tryd.prog 80 #[.pointer (some ⟨g, 0, none⟩)] w fun e w' => (if wslA s (numE s p) = true then e = .returned (.int .u8 26) ∧ Go2 w0 w w' g s C (nmE s (numE s p)) st (((numE s p - st) % 65536 : Nat) : Int) k f else if byt s (numE s p) = 37 then e = .returned (.int .u8 34) ∧ Go2 w0 w w' g s C (numE s p + 1) st u k f else e = .returned (.int .u8 30) ∧ Go2 w0 w w' g s C (numE s p) st u k f) := by
  have HD := Lib.hid hD
  obtain ⟨P1, hP1⟩ : ∃ q, sgE s p = q := ⟨_, rfl⟩
  obtain ⟨P2, hP2⟩ : ∃ q, dgE s P1 = q := ⟨_, rfl⟩
  obtain ⟨P3, hP3⟩ : ∃ q, dotE s P2 = q := ⟨_, rfl⟩
  obtain ⟨P4, hP4⟩ : ∃ q, expE s P3 = q := ⟨_, rfl⟩
  have hn : numE s p = P4 := by unfold numE n1; rw [hP1, hP2, hP3, hP4]
  rw [hn]
  have b1 : p ≤ P1 ∧ P1 ≤ s.size := by have := sgE_ge s p hp; omega
  have b2 : P1 ≤ P2 ∧ P2 ≤ s.size := by have := dgE_ge s P1 b1.2; omega
  have b3 : P2 ≤ P3 ∧ P3 ≤ s.size := by have := dotE_ge s P2 b2.2; omega
  have b4 : P3 ≤ P4 ∧ P4 ≤ s.size := by have := expE_ge s P3 b3.2; omega
  have HP1 := Lib.hid hP1; have HP2 := Lib.hid hP2; have HP3 := Lib.hid hP3; have HP4 := Lib.hid hP4; have HB := Lib.hid (And.intro b1 (And.intro b2 (And.intro b3 b4)))
  have H0 := Lib.hid (show St w0 w g s C st u k f p w from h.go)
  clear hP1 hP2 hP3 hP4 hn b1 b2 b3 b4 h hD
  obtain ⟨RES, hRES⟩ : ∃ R : Ending → World → Prop, R = (fun e w' => (if wslA s P4 = true then e = .returned (.int .u8 26) ∧ Go2 w0 w w' g s C (nmE s P4) st (((P4 - st) % 65536 : Nat) : Int) k f else if byt s P4 = 37 then e = .returned (.int .u8 34) ∧ Go2 w0 w w' g s C (P4 + 1) st u k f else e = .returned (.int .u8 30) ∧ Go2 w0 w w' g s C P4 st u k f)) := ⟨_, rfl⟩
  rw [← hRES]
  have HRES := Lib.hid hRES
  clear hRES
  obtain ⟨c, hc⟩ : ∃ c, cpOf s p = c := ⟨_, rfl⟩
  obtain ⟨sg, hsg⟩ : ∃ b, decide (c = 43 ∨ c = 45) = b := ⟨_, rfl⟩
  obtain ⟨l, c10, c32, c33, c35, c36, c37, fz⟩ := id (H0.out.1.at_)
  have c39 := H0.out.1.c39
  have c38 := H0.out.1.c38
  rw [hc] at c35
  have HC := Lib.hid hc; have HSG := Lib.hid hsg
  clear hc hsg
  go_enter Tryd.func80, Tryd.ntmps80
  go_upto_region 1 with fail
  go_cut [16] (fun v wx => v = .bool sg ∧ w = wx)
  case first =>
    by_cases h1 : c = 43
    · subst h1
      obtain rfl : sg = true := HSG.out.symm
      go_wp2_with fail
      go_meet
      exact ⟨rfl, rfl⟩
    by_cases h2 : c = 45
    · subst h2
      obtain rfl : sg = true := HSG.out.symm
      go_wp2_with fail
      go_meet
      exact ⟨rfl, rfl⟩
    obtain rfl : sg = false := by rw [← HSG.out]; simp [h1, h2]
    have e1 : (c == 43) = false := by rw [beq_eq_false_iff_ne]; exact h1
    have e2 : (c == 45) = false := by rw [beq_eq_false_iff_ne]; exact h2
    clear h1 h2
    go_wp2_with fail
    go_meet
    exact ⟨rfl, rfl⟩
  case rest =>
    obtain ⟨rfl, rfl⟩ := hcut
    go_upto_if 16 with fail
    go_cut [] (fun wx => Hid (St w0 w g s C st u k f P1 wx))
    case first => as_aux_lemma =>
      cases sg with
      | true =>
        have hsg := (sg_cp s p hp).1 (by rw [HC.out]; have := HSG.out; simpa using this)
        go_wp2_with fail
        refine (step_pla H0.out.1 (byt_lt_size s p (by omega)) (by omega) hs hst).mono ?_
        rintro e w2 ⟨rfl, hg⟩
        have HG := Lib.hid (show St w0 w g s C st u k f P1 w2 by
          have e : P1 = p + 1 := by rw [← HP1.out]; unfold sgE; rw [if_pos hsg]
          rw [e]; exact H0.out.trans hg)
        clear hg
        dsimp only
        go_wp2_with fail
        go_meet
        exact HG
      | false =>
        have HG := Lib.hid (show St w0 w g s C st u k f P1 w by
          have e : P1 = p := by
            rw [← HP1.out]; unfold sgE
            rw [if_neg (fun hh => by have := (sg_cp s p hp).2 hh; rw [HC.out] at this; have h2 := HSG.out; simp at h2; omega)]
          rw [e]; exact H0.out)
        go_wp2_with fail
        go_meet
        exact HG
    case rest =>
      have HG1 := hcut
      clear hcut
      have HLP := HP2
      go_upto_block 0 with fail
      go_cut [] (fun wx => Hid (St w0 w g s C st u k f P2 wx))
      case first => as_aux_lemma =>
        go_wp2_with fail
        go_loopg [] (s.size - P1) (fun n wx => Hid (∃ r, n = s.size - r ∧ r ≤ s.size ∧ P1 ≤ r ∧ dgE s r = P2 ∧ St w0 w g s C st u k f r wx))
        case atStart => exact Lib.hid ⟨P1, rfl, by have := HB.out; omega, Nat.le_refl _, HLP.out, HG1.out⟩
        case round =>
          obtain ⟨r, hn, hr, hr1, hE, hS⟩ := hrel.out
          have HS := Lib.hid hS; have HE := Lib.hid (And.intro hn (And.intro hr1 hE))
          obtain ⟨c, hc⟩ : ∃ c, cpOf s r = c := ⟨_, rfl⟩
          obtain ⟨l, c10, c32, c33, c35, c36, c37, fz⟩ := id (HS.out.1.at_)
          have c39 := HS.out.1.c39
          have c38 := HS.out.1.c38
          rw [hc] at c35
          have HCR := Lib.hid hc
          have hstr : st ≤ r := by have := HB.out; omega
          clear hrel hn hr1 hE hS hc
          by_cases hd : r < s.size ∧ digC (byt s r) = true
          · have hcc := (dig_cp s r hr).2 hd
            rw [HCR.out] at hcc
            obtain ⟨hc1, hc2⟩ := hcc
            have HDD := Lib.hid hd
            clear hd
            go_wp2_with fail
            refine (step_pla HS.out.1 HDD.out.1 (by have h2 := HDD.out.2; unfold digC at h2; simp at h2; omega) hs hstr).mono ?_
            rintro e w2 ⟨rfl, hg⟩
            have HG2 := Lib.hid (show St w0 w g s C st u k f (r + 1) w2 from HS.out.trans hg)
            clear hg
            dsimp only
            go_wp2_with fail
            go_roundg (s.size - (r + 1))
            case measure => have h1 := HE.out.1; have h2 := HDD.out.1; omega
            case rel => exact Lib.hid ⟨r + 1, rfl, HDD.out.1, by have := HE.out.2.1; omega, by rw [← dgE_go s r HDD.out.1 HDD.out.2]; exact HE.out.2.2, HG2.out⟩
          · have HEND := Lib.hid (show St w0 w g s C st u k f P2 wr by
              have e : r = P2 := by rw [← HE.out.2.2]; exact (dgE_stop s r hd).symm
              rw [← e]; exact HS.out)
            have hnd : ¬ (48 ≤ c ∧ c ≤ 57) := fun hh => hd ((dig_cp s r hr).1 (by rw [HCR.out]; exact hh))
            clear hd
            by_cases h48 : 48 ≤ c
            · have h57 : ¬ c ≤ 57 := fun hh => hnd ⟨h48, hh⟩
              clear hnd
              go_wp2_with fail
              go_meet
              exact HEND
            · clear hnd
              go_wp2_with fail
              go_meet
              exact HEND
      case rest =>
        have HG2 := hcut
        clear hcut HG1 HLP
        obtain ⟨d, hd⟩ : ∃ c, cpOf s P2 = c := ⟨_, rfl⟩
        obtain ⟨l, c10, c32, c33, c35, c36, c37, fz⟩ := id (HG2.out.1.at_)
        have c39 := HG2.out.1.c39
        have c38 := HG2.out.1.c38
        rw [hd] at c35
        have HDC := Lib.hid hd
        clear hd
        go_upto_if 37 with fail
        go_cut [] (fun wx => Hid (St w0 w g s C st u k f P3 wx))
        case first => as_aux_lemma =>
          by_cases h46 : d = 46
          · have hb := (is_cp s P2 HB.out.2.1.2 46 (by omega) (by omega)).1 (by rw [HDC.out]; exact h46)
            have HBB := Lib.hid hb
            have hlt := byt_lt_size s P2 (by omega)
            have HLP := Lib.hid (show dgE s (P2 + 1) = P3 by rw [← HP3.out]; unfold dotE; rw [if_pos hb])
            have e1 : (d == 46) = true := by rw [beq_iff_eq]; exact h46
            clear h46 hb
            go_wp2_with fail
            refine (step_pla HG2.out.1 hlt (by have := HBB.out; omega) hs (by have := HB.out; omega)).mono ?_
            rintro e w2 ⟨rfl, hg⟩
            have HG3 := Lib.hid (show St w0 w g s C st u k f (P2 + 1) w2 from HG2.out.trans hg)
            clear hg
            dsimp only
            go_wp2_with fail
            go_loopg [] (s.size - (P2 + 1)) (fun n wx => Hid (∃ r, n = s.size - r ∧ r ≤ s.size ∧ (P2 + 1) ≤ r ∧ dgE s r = P3 ∧ St w0 w g s C st u k f r wx))
            case atStart => exact Lib.hid ⟨(P2 + 1), rfl, by have := HB.out; omega, Nat.le_refl _, HLP.out, HG3.out⟩
            case round =>
              obtain ⟨r, hn, hr, hr1, hE, hS⟩ := hrel.out
              have HS := Lib.hid hS; have HE := Lib.hid (And.intro hn (And.intro hr1 hE))
              obtain ⟨c, hc⟩ : ∃ c, cpOf s r = c := ⟨_, rfl⟩
              obtain ⟨l, c10, c32, c33, c35, c36, c37, fz⟩ := id (HS.out.1.at_)
              have c39 := HS.out.1.c39
              have c38 := HS.out.1.c38
              rw [hc] at c35
              have HCR := Lib.hid hc
              have hstr : st ≤ r := by have := HB.out; omega
              clear hrel hn hr1 hE hS hc
              by_cases hd : r < s.size ∧ digC (byt s r) = true
              · have hcc := (dig_cp s r hr).2 hd
                rw [HCR.out] at hcc
                obtain ⟨hc1, hc2⟩ := hcc
                have HDD := Lib.hid hd
                clear hd
                go_wp2_with fail
                refine (step_pla HS.out.1 HDD.out.1 (by have h2 := HDD.out.2; unfold digC at h2; simp at h2; omega) hs hstr).mono ?_
                rintro e w2 ⟨rfl, hg⟩
                have HG2 := Lib.hid (show St w0 w g s C st u k f (r + 1) w2 from HS.out.trans hg)
                clear hg
                dsimp only
                go_wp2_with fail
                go_roundg (s.size - (r + 1))
                case measure => have h1 := HE.out.1; have h2 := HDD.out.1; omega
                case rel => exact Lib.hid ⟨r + 1, rfl, HDD.out.1, by have := HE.out.2.1; omega, by rw [← dgE_go s r HDD.out.1 HDD.out.2]; exact HE.out.2.2, HG2.out⟩
              · have HEND := Lib.hid (show St w0 w g s C st u k f P3 wr by
                  have e : r = P3 := by rw [← HE.out.2.2]; exact (dgE_stop s r hd).symm
                  rw [← e]; exact HS.out)
                have hnd : ¬ (48 ≤ c ∧ c ≤ 57) := fun hh => hd ((dig_cp s r hr).1 (by rw [HCR.out]; exact hh))
                clear hd
                by_cases h48 : 48 ≤ c
                · have h57 : ¬ c ≤ 57 := fun hh => hnd ⟨h48, hh⟩
                  clear hnd
                  go_wp2_with fail
                  go_meet
                  exact HEND
                · clear hnd
                  go_wp2_with fail
                  go_meet
                  exact HEND
          · have HEND := Lib.hid (show St w0 w g s C st u k f P3 wc by
              have e : P3 = P2 := by rw [← HP3.out]; unfold dotE; rw [if_neg (fun hh => h46 (by rw [← HDC.out]; exact (is_cp s P2 HB.out.2.1.2 46 (by omega) (by omega)).2 hh))]
              rw [e]; exact HG2.out)
            have e1 : (d == 46) = false := by rw [beq_eq_false_iff_ne]; exact h46
            clear h46
            go_wp2_with fail
            go_meet
            exact HEND
        case rest =>
          have HG3 := hcut
          clear hcut HG2 HDC l c10 c32 c33 c35 c36 c37 fz c39 c38
          obtain ⟨c, hc⟩ : ∃ c, cpOf s P3 = c := ⟨_, rfl⟩
          obtain ⟨ee, hee⟩ : ∃ b, decide (c = 101 ∨ c = 69) = b := ⟨_, rfl⟩
          obtain ⟨l, c10, c32, c33, c35, c36, c37, fz⟩ := id (HG3.out.1.at_)
          have c39 := HG3.out.1.c39
          have c38 := HG3.out.1.c38
          rw [hc] at c35
          have HC3 := Lib.hid hc; have HEE := Lib.hid hee
          have HEB := Lib.hid (show decide (byt s P3 = 101 ∨ byt s P3 = 69) = ee by
            have h1 := is_cp s P3 HB.out.2.2.1.2 101 (by omega) (by omega)
            have h2 := is_cp s P3 HB.out.2.2.1.2 69 (by omega) (by omega)
            rw [← hee, ← hc]
            rw [Bool.eq_iff_iff]; simp only [decide_eq_true_eq]; exact (or_congr h1 h2).symm)
          clear hc hee
          go_upto_region 9 with fail
          go_cut [65] (fun v wx => v = .bool ee ∧ wc = wx)
          case first =>
            by_cases h1 : c = 101
            · subst h1
              obtain rfl : ee = true := HEE.out.symm
              go_wp2_with fail
              go_meet
              exact ⟨rfl, rfl⟩
            by_cases h2 : c = 69
            · subst h2
              obtain rfl : ee = true := HEE.out.symm
              go_wp2_with fail
              go_meet
              exact ⟨rfl, rfl⟩
            obtain rfl : ee = false := by rw [← HEE.out]; simp [h1, h2]
            have e1 : (c == 101) = false := by rw [beq_eq_false_iff_ne]; exact h1
            have e2 : (c == 69) = false := by rw [beq_eq_false_iff_ne]; exact h2
            clear h1 h2
            go_wp2_with fail
            go_meet
            exact ⟨rfl, rfl⟩
          case rest =>
            obtain ⟨rfl, rfl⟩ := hcut
            go_upto_if 65 with fail
            go_cut [] (fun wx => Hid (St w0 w g s C st u k f P4 wx))
            case first => as_aux_lemma =>
              cases ee with
              | false =>
                have HX := Lib.hid (show expB s P3 = false by unfold expB; rw [HEB.out]; rfl)
                have HEND := Lib.hid (show St w0 w g s C st u k f P4 wc from by
                  have e : P4 = P3 := by rw [← HP4.out]; unfold expE; rw [if_neg (by rw [HX.out]; simp)]
                  rw [e]; exact HG3.out)
                go_wp2_with fail
                go_meet
                exact HEND
              | true =>
                have hl3 : P3 < s.size := byt_lt_size s P3 (by have := HEB.out; simp at this; omega)
                have HA3 := Lib.hid (show byt s P3 < 128 by have := HEB.out; simp at this; omega)
                have hw3 : wid s P3 = 1 := wid_asc s P3 hl3 HA3.out
                obtain ⟨Q1, hQ1⟩ : ∃ q, P3 + 1 = q := ⟨_, rfl⟩
                obtain ⟨Q2, hQ2⟩ : ∃ q, Q1 + 1 = q := ⟨_, rfl⟩
                have hQ2' : (Q1 : Int) + 1 = (Q2 : Int) := by omega
                rw [hw3, hQ1] at c33
                have hXB : expB s P3 = (decide (Q1 < s.size) && digC (if (byt s Q1 = 43 ∨ byt s Q1 = 45) ∧ Q2 < s.size then byt s Q2 else byt s Q1)) := by
                  unfold expB; rw [HEB.out]; rw [hQ1, show P3 + 2 = Q2 by omega]; rfl
                have HXB := Lib.hid hXB; have HQ := Lib.hid (And.intro hQ1 hQ2)
                clear hXB hQ1 hQ2 hw3
                by_cases h1 : Q1 < s.size
                case neg =>
                  have HX := Lib.hid (show expB s P3 = false by rw [HXB.out]; simp [h1])
                  have HEND := Lib.hid (show St w0 w g s C st u k f P4 wc from by
                    have e : P4 = P3 := by rw [← HP4.out]; unfold expE; rw [if_neg (by rw [HX.out]; simp)]
                    rw [e]; exact HG3.out)
                  go_wp2_with fail
                  go_meet
                  exact HEND
                obtain ⟨x, hx⟩ : ∃ b, (s[Q1]'h1).toNat = b := ⟨_, rfl⟩
                have hx' : ((s[Q1]'h1).toNat : Int) = (x : Int) := by omega
                have hxb : byt s Q1 = x := by rw [← byt_at s Q1 h1]; exact hx
                have hx2 : x < 256 := by rw [← hxb]; exact byt_lt _ _
                have HXQ := Lib.hid hxb
                clear hx hxb
                by_cases hs43 : x = 43
                · subst hs43
                  by_cases h2 : Q2 < s.size
                  case neg =>
                    have HX := Lib.hid (show expB s P3 = false by rw [HXB.out, HXQ.out]; simp [h2]; intro _; decide)
                    have HEND := Lib.hid (show St w0 w g s C st u k f P4 wc from by
                      have e : P4 = P3 := by rw [← HP4.out]; unfold expE; rw [if_neg (by rw [HX.out]; simp)]
                      rw [e]; exact HG3.out)
                    go_wp2_with fail
                    go_meet
                    exact HEND
                  obtain ⟨y, hy⟩ : ∃ b, (s[Q2]'h2).toNat = b := ⟨_, rfl⟩
                  have hy' : ((s[Q2]'h2).toNat : Int) = (y : Int) := by omega
                  have hyb : byt s Q2 = y := by rw [← byt_at s Q2 h2]; exact hy
                  have hy3 : y < 256 := by rw [← hyb]; exact byt_lt _ _
                  have HYQ := Lib.hid hyb
                  have HSEL := Lib.hid (show (decide (Q1 < s.size) && digC (if (byt s Q1 = 43 ∨ byt s Q1 = 45) ∧ Q2 < s.size then byt s Q2 else byt s Q1)) = digC y by
                    rw [if_pos ⟨by rw [HXQ.out]; omega, h2⟩, hyb]; simp [h1])
                  clear hy hyb
                  by_cases hy1 : 48 ≤ y
                  case neg =>
                    have HX := Lib.hid (show expB s P3 = false by rw [HXB.out, HSEL.out]; unfold digC; simp; omega)
                    have HEND := Lib.hid (show St w0 w g s C st u k f P4 wc from by
                      have e : P4 = P3 := by rw [← HP4.out]; unfold expE; rw [if_neg (by rw [HX.out]; simp)]
                      rw [e]; exact HG3.out)
                    go_wp2_with fail
                    go_meet
                    exact HEND
                  by_cases hy2 : y ≤ 57
                  case neg =>
                    have HX := Lib.hid (show expB s P3 = false by rw [HXB.out, HSEL.out]; unfold digC; simp; omega)
                    have HEND := Lib.hid (show St w0 w g s C st u k f P4 wc from by
                      have e : P4 = P3 := by rw [← HP4.out]; unfold expE; rw [if_neg (by rw [HX.out]; simp)]
                      rw [e]; exact HG3.out)
                    go_wp2_with fail
                    go_meet
                    exact HEND
                  have HX := Lib.hid (show expB s P3 = true by rw [HXB.out, HSEL.out]; unfold digC; simp; omega)
                  have HST := Lib.hid (show st ≤ P3 by have := HB.out; omega)
                  have HLP := Lib.hid (show dgE s Q2 = P4 by
                    rw [← HP4.out]; unfold expE; rw [if_pos HX.out, HQ.out.1]; unfold sgE
                    rw [if_pos (by rw [HXQ.out]; omega), HQ.out.2])
                  have HX' := Lib.hid (show cpOf s Q1 = 43 by rw [cp_asc s Q1 h1 (by rw [HXQ.out]; omega)]; have := HXQ.out; omega)
                  go_wp2_with fail
                  refine (step_pla HG3.out.1 hl3 HA3.out hs HST.out).mono ?_
                  rintro e w2 ⟨rfl, hg⟩
                  rw [HQ.out.1] at hg
                  have HG4 := Lib.hid (show St w0 w g s C st u k f Q1 w2 from HG3.out.trans hg)
                  clear hg l c10 c32 c33 c35 c36 c37 fz c39 c38
                  obtain ⟨l, c10, c32, c33, c35, c36, c37, fz⟩ := id (HG4.out.1.at_)
                  have c39 := HG4.out.1.c39
                  have c38 := HG4.out.1.c38
                  rw [HX'.out] at c35
                  dsimp only
                  go_wp2_with fail
                  refine (step_pla HG4.out.1 h1 (by rw [HXQ.out]; omega) hs (by have := HST.out; have := HQ.out; omega)).mono ?_
                  rintro e w3 ⟨rfl, hg⟩
                  rw [HQ.out.2] at hg
                  have HG5 := Lib.hid (show St w0 w g s C st u k f Q2 w3 from HG4.out.trans hg)
                  clear hg l c10 c32 c33 c35 c36 c37 fz c39 c38
                  have hx43 := hx2
                  dsimp only
                  go_wp2_with fail
                  have HBB := HB
                  have HB := Lib.hid (show Q2 ≤ s.size ∧ st ≤ Q2 by have := HST.out; have := HQ.out; omega)
                  go_loopg [] (s.size - Q2) (fun n wx => Hid (∃ r, n = s.size - r ∧ r ≤ s.size ∧ Q2 ≤ r ∧ dgE s r = P4 ∧ St w0 w g s C st u k f r wx))
                  case atStart => exact Lib.hid ⟨Q2, rfl, HB.out.1, Nat.le_refl _, HLP.out, HG5.out⟩
                  case round =>
                    obtain ⟨r, hn, hr, hr1, hE, hS⟩ := hrel.out
                    have HS := Lib.hid hS; have HE := Lib.hid (And.intro hn (And.intro hr1 hE))
                    obtain ⟨c, hc⟩ : ∃ c, cpOf s r = c := ⟨_, rfl⟩
                    obtain ⟨l, c10, c32, c33, c35, c36, c37, fz⟩ := id (HS.out.1.at_)
                    have c39 := HS.out.1.c39
                    have c38 := HS.out.1.c38
                    rw [hc] at c35
                    have HCR := Lib.hid hc
                    have hstr : st ≤ r := by have := HB.out.2; omega
                    clear hrel hn hr1 hE hS hc
                    by_cases hd : r < s.size ∧ digC (byt s r) = true
                    · have hcc := (dig_cp s r hr).2 hd
                      rw [HCR.out] at hcc
                      obtain ⟨hc1, hc2⟩ := hcc
                      have HDD := Lib.hid hd
                      clear hd
                      go_wp2_with fail
                      refine (step_pla HS.out.1 HDD.out.1 (by have h2 := HDD.out.2; unfold digC at h2; simp at h2; omega) hs hstr).mono ?_
                      rintro e w2 ⟨rfl, hg⟩
                      have HG2 := Lib.hid (show St w0 w g s C st u k f (r + 1) w2 from HS.out.trans hg)
                      clear hg
                      dsimp only
                      go_wp2_with fail
                      go_roundg (s.size - (r + 1))
                      case measure => have h1 := HE.out.1; have h2 := HDD.out.1; omega
                      case rel => exact Lib.hid ⟨r + 1, rfl, HDD.out.1, by have := HE.out.2.1; omega, by rw [← dgE_go s r HDD.out.1 HDD.out.2]; exact HE.out.2.2, HG2.out⟩
                    · have HEND := Lib.hid (show St w0 w g s C st u k f P4 wr by
                        have e : r = P4 := by rw [← HE.out.2.2]; exact (dgE_stop s r hd).symm
                        rw [← e]; exact HS.out)
                      have hnd : ¬ (48 ≤ c ∧ c ≤ 57) := fun hh => hd ((dig_cp s r hr).1 (by rw [HCR.out]; exact hh))
                      clear hd
                      by_cases h48 : 48 ≤ c
                      · have h57 : ¬ c ≤ 57 := fun hh => hnd ⟨h48, hh⟩
                        clear hnd
                        go_wp2_with fail
                        go_meet
                        exact HEND
                      · clear hnd
                        go_wp2_with fail
                        go_meet
                        exact HEND
                by_cases hs45 : x = 45
                · subst hs45
                  by_cases h2 : Q2 < s.size
                  case neg =>
                    have HX := Lib.hid (show expB s P3 = false by rw [HXB.out, HXQ.out]; simp [h2]; intro _; decide)
                    have HEND := Lib.hid (show St w0 w g s C st u k f P4 wc from by
                      have e : P4 = P3 := by rw [← HP4.out]; unfold expE; rw [if_neg (by rw [HX.out]; simp)]
                      rw [e]; exact HG3.out)
                    go_wp2_with fail
                    go_meet
                    exact HEND
                  obtain ⟨y, hy⟩ : ∃ b, (s[Q2]'h2).toNat = b := ⟨_, rfl⟩
                  have hy' : ((s[Q2]'h2).toNat : Int) = (y : Int) := by omega
                  have hyb : byt s Q2 = y := by rw [← byt_at s Q2 h2]; exact hy
                  have hy3 : y < 256 := by rw [← hyb]; exact byt_lt _ _
                  have HYQ := Lib.hid hyb
                  have HSEL := Lib.hid (show (decide (Q1 < s.size) && digC (if (byt s Q1 = 43 ∨ byt s Q1 = 45) ∧ Q2 < s.size then byt s Q2 else byt s Q1)) = digC y by
                    rw [if_pos ⟨by rw [HXQ.out]; omega, h2⟩, hyb]; simp [h1])
                  clear hy hyb
                  by_cases hy1 : 48 ≤ y
                  case neg =>
                    have HX := Lib.hid (show expB s P3 = false by rw [HXB.out, HSEL.out]; unfold digC; simp; omega)
                    have HEND := Lib.hid (show St w0 w g s C st u k f P4 wc from by
                      have e : P4 = P3 := by rw [← HP4.out]; unfold expE; rw [if_neg (by rw [HX.out]; simp)]
                      rw [e]; exact HG3.out)
                    go_wp2_with fail
                    go_meet
                    exact HEND
                  by_cases hy2 : y ≤ 57
                  case neg =>
                    have HX := Lib.hid (show expB s P3 = false by rw [HXB.out, HSEL.out]; unfold digC; simp; omega)
                    have HEND := Lib.hid (show St w0 w g s C st u k f P4 wc from by
                      have e : P4 = P3 := by rw [← HP4.out]; unfold expE; rw [if_neg (by rw [HX.out]; simp)]
                      rw [e]; exact HG3.out)
                    go_wp2_with fail
                    go_meet
                    exact HEND
                  have HX := Lib.hid (show expB s P3 = true by rw [HXB.out, HSEL.out]; unfold digC; simp; omega)
                  have HST := Lib.hid (show st ≤ P3 by have := HB.out; omega)
                  have HLP := Lib.hid (show dgE s Q2 = P4 by
                    rw [← HP4.out]; unfold expE; rw [if_pos HX.out, HQ.out.1]; unfold sgE
                    rw [if_pos (by rw [HXQ.out]; omega), HQ.out.2])
                  have HX' := Lib.hid (show cpOf s Q1 = 45 by rw [cp_asc s Q1 h1 (by rw [HXQ.out]; omega)]; have := HXQ.out; omega)
                  go_wp2_with fail
                  refine (step_pla HG3.out.1 hl3 HA3.out hs HST.out).mono ?_
                  rintro e w2 ⟨rfl, hg⟩
                  rw [HQ.out.1] at hg
                  have HG4 := Lib.hid (show St w0 w g s C st u k f Q1 w2 from HG3.out.trans hg)
                  clear hg l c10 c32 c33 c35 c36 c37 fz c39 c38
                  obtain ⟨l, c10, c32, c33, c35, c36, c37, fz⟩ := id (HG4.out.1.at_)
                  have c39 := HG4.out.1.c39
                  have c38 := HG4.out.1.c38
                  rw [HX'.out] at c35
                  dsimp only
                  go_wp2_with fail
                  refine (step_pla HG4.out.1 h1 (by rw [HXQ.out]; omega) hs (by have := HST.out; have := HQ.out; omega)).mono ?_
                  rintro e w3 ⟨rfl, hg⟩
                  rw [HQ.out.2] at hg
                  have HG5 := Lib.hid (show St w0 w g s C st u k f Q2 w3 from HG4.out.trans hg)
                  clear hg l c10 c32 c33 c35 c36 c37 fz c39 c38
                  have hx43 := hx2
                  dsimp only
                  go_wp2_with fail
                  have HBB := HB
                  have HB := Lib.hid (show Q2 ≤ s.size ∧ st ≤ Q2 by have := HST.out; have := HQ.out; omega)
                  go_loopg [] (s.size - Q2) (fun n wx => Hid (∃ r, n = s.size - r ∧ r ≤ s.size ∧ Q2 ≤ r ∧ dgE s r = P4 ∧ St w0 w g s C st u k f r wx))
                  case atStart => exact Lib.hid ⟨Q2, rfl, HB.out.1, Nat.le_refl _, HLP.out, HG5.out⟩
                  case round =>
                    obtain ⟨r, hn, hr, hr1, hE, hS⟩ := hrel.out
                    have HS := Lib.hid hS; have HE := Lib.hid (And.intro hn (And.intro hr1 hE))
                    obtain ⟨c, hc⟩ : ∃ c, cpOf s r = c := ⟨_, rfl⟩
                    obtain ⟨l, c10, c32, c33, c35, c36, c37, fz⟩ := id (HS.out.1.at_)
                    have c39 := HS.out.1.c39
                    have c38 := HS.out.1.c38
                    rw [hc] at c35
                    have HCR := Lib.hid hc
                    have hstr : st ≤ r := by have := HB.out.2; omega
                    clear hrel hn hr1 hE hS hc
                    by_cases hd : r < s.size ∧ digC (byt s r) = true
                    · have hcc := (dig_cp s r hr).2 hd
                      rw [HCR.out] at hcc
                      obtain ⟨hc1, hc2⟩ := hcc
                      have HDD := Lib.hid hd
                      clear hd
                      go_wp2_with fail
                      refine (step_pla HS.out.1 HDD.out.1 (by have h2 := HDD.out.2; unfold digC at h2; simp at h2; omega) hs hstr).mono ?_
                      rintro e w2 ⟨rfl, hg⟩
                      have HG2 := Lib.hid (show St w0 w g s C st u k f (r + 1) w2 from HS.out.trans hg)
                      clear hg
                      dsimp only
                      go_wp2_with fail
                      go_roundg (s.size - (r + 1))
                      case measure => have h1 := HE.out.1; have h2 := HDD.out.1; omega
                      case rel => exact Lib.hid ⟨r + 1, rfl, HDD.out.1, by have := HE.out.2.1; omega, by rw [← dgE_go s r HDD.out.1 HDD.out.2]; exact HE.out.2.2, HG2.out⟩
                    · have HEND := Lib.hid (show St w0 w g s C st u k f P4 wr by
                        have e : r = P4 := by rw [← HE.out.2.2]; exact (dgE_stop s r hd).symm
                        rw [← e]; exact HS.out)
                      have hnd : ¬ (48 ≤ c ∧ c ≤ 57) := fun hh => hd ((dig_cp s r hr).1 (by rw [HCR.out]; exact hh))
                      clear hd
                      by_cases h48 : 48 ≤ c
                      · have h57 : ¬ c ≤ 57 := fun hh => hnd ⟨h48, hh⟩
                        clear hnd
                        go_wp2_with fail
                        go_meet
                        exact HEND
                      · clear hnd
                        go_wp2_with fail
                        go_meet
                        exact HEND
                have e43 : ((x : Int) == 43) = false := by rw [beq_eq_false_iff_ne]; omega
                have e45 : ((x : Int) == 45) = false := by rw [beq_eq_false_iff_ne]; omega
                have HSEL := Lib.hid (show (decide (Q1 < s.size) && digC (if (byt s Q1 = 43 ∨ byt s Q1 = 45) ∧ Q2 < s.size then byt s Q2 else byt s Q1)) = digC x by
                  rw [if_neg (fun hh => by have := HXQ.out; omega), HXQ.out]; simp [h1])
                by_cases hy1 : 48 ≤ x
                case neg =>
                  have HX := Lib.hid (show expB s P3 = false by rw [HXB.out, HSEL.out]; unfold digC; simp; omega)
                  have HEND := Lib.hid (show St w0 w g s C st u k f P4 wc from by
                    have e : P4 = P3 := by rw [← HP4.out]; unfold expE; rw [if_neg (by rw [HX.out]; simp)]
                    rw [e]; exact HG3.out)
                  go_wp2_with fail
                  go_meet
                  exact HEND
                by_cases hy2 : x ≤ 57
                case neg =>
                  have HX := Lib.hid (show expB s P3 = false by rw [HXB.out, HSEL.out]; unfold digC; simp; omega)
                  have HEND := Lib.hid (show St w0 w g s C st u k f P4 wc from by
                    have e : P4 = P3 := by rw [← HP4.out]; unfold expE; rw [if_neg (by rw [HX.out]; simp)]
                    rw [e]; exact HG3.out)
                  go_wp2_with fail
                  go_meet
                  exact HEND
                have HX := Lib.hid (show expB s P3 = true by rw [HXB.out, HSEL.out]; unfold digC; simp; omega)
                have HST := Lib.hid (show st ≤ P3 by have := HB.out; omega)
                have HLP := Lib.hid (show dgE s Q1 = P4 by
                  rw [← HP4.out]; unfold expE; rw [if_pos HX.out, HQ.out.1]; unfold sgE
                  rw [if_neg (by rw [HXQ.out]; omega)])
                have HX' := Lib.hid (show cpOf s Q1 = (x : Int) by rw [cp_asc s Q1 h1 (by rw [HXQ.out]; omega)]; have := HXQ.out; omega)
                go_wp2_with fail
                refine (step_pla HG3.out.1 hl3 HA3.out hs HST.out).mono ?_
                rintro e w2 ⟨rfl, hg⟩
                rw [HQ.out.1] at hg
                have HG4 := Lib.hid (show St w0 w g s C st u k f Q1 w2 from HG3.out.trans hg)
                clear hg l c10 c32 c33 c35 c36 c37 fz c39 c38
                obtain ⟨l, c10, c32, c33, c35, c36, c37, fz⟩ := id (HG4.out.1.at_)
                have c39 := HG4.out.1.c39
                have c38 := HG4.out.1.c38
                rw [HX'.out] at c35
                dsimp only
                go_wp2_with fail
                have HBB := HB
                have HB := Lib.hid (show Q1 ≤ s.size ∧ st ≤ Q1 by have := HST.out; have := HQ.out; omega)
                go_loopg [] (s.size - Q1) (fun n wx => Hid (∃ r, n = s.size - r ∧ r ≤ s.size ∧ Q1 ≤ r ∧ dgE s r = P4 ∧ St w0 w g s C st u k f r wx))
                case atStart => exact Lib.hid ⟨Q1, rfl, HB.out.1, Nat.le_refl _, HLP.out, HG4.out⟩
                case round =>
                  obtain ⟨r, hn, hr, hr1, hE, hS⟩ := hrel.out
                  have HS := Lib.hid hS; have HE := Lib.hid (And.intro hn (And.intro hr1 hE))
                  obtain ⟨c, hc⟩ : ∃ c, cpOf s r = c := ⟨_, rfl⟩
                  obtain ⟨l, c10, c32, c33, c35, c36, c37, fz⟩ := id (HS.out.1.at_)
                  have c39 := HS.out.1.c39
                  have c38 := HS.out.1.c38
                  rw [hc] at c35
                  have HCR := Lib.hid hc
                  have hstr : st ≤ r := by have := HB.out.2; omega
                  clear hrel hn hr1 hE hS hc
                  by_cases hd : r < s.size ∧ digC (byt s r) = true
                  · have hcc := (dig_cp s r hr).2 hd
                    rw [HCR.out] at hcc
                    obtain ⟨hc1, hc2⟩ := hcc
                    have HDD := Lib.hid hd
                    clear hd
                    go_wp2_with fail
                    refine (step_pla HS.out.1 HDD.out.1 (by have h2 := HDD.out.2; unfold digC at h2; simp at h2; omega) hs hstr).mono ?_
                    rintro e w2 ⟨rfl, hg⟩
                    have HG2 := Lib.hid (show St w0 w g s C st u k f (r + 1) w2 from HS.out.trans hg)
                    clear hg
                    dsimp only
                    go_wp2_with fail
                    go_roundg (s.size - (r + 1))
                    case measure => have h1 := HE.out.1; have h2 := HDD.out.1; omega
                    case rel => exact Lib.hid ⟨r + 1, rfl, HDD.out.1, by have := HE.out.2.1; omega, by rw [← dgE_go s r HDD.out.1 HDD.out.2]; exact HE.out.2.2, HG2.out⟩
                  · have HEND := Lib.hid (show St w0 w g s C st u k f P4 wr by
                      have e : r = P4 := by rw [← HE.out.2.2]; exact (dgE_stop s r hd).symm
                      rw [← e]; exact HS.out)
                    have hnd : ¬ (48 ≤ c ∧ c ≤ 57) := fun hh => hd ((dig_cp s r hr).1 (by rw [HCR.out]; exact hh))
                    clear hd
                    by_cases h48 : 48 ≤ c
                    · have h57 : ¬ c ≤ 57 := fun hh => hnd ⟨h48, hh⟩
                      clear hnd
                      go_wp2_with fail
                      go_meet
                      exact HEND
                    · clear hnd
                      go_wp2_with fail
                      go_meet
                      exact HEND
            case rest =>
              have HG4 := hcut
              clear hcut HG3 HC3 HEE HEB l c10 c32 c33 c35 c36 c37 fz c39 c38
              as_aux_lemma =>
                obtain ⟨c, hc⟩ : ∃ c, cpOf s P4 = c := ⟨_, rfl⟩
                obtain ⟨L, hL⟩ : ∃ L, P4 - st = L := ⟨_, rfl⟩
                obtain ⟨UU, hUU⟩ : ∃ U, L % 65536 = U := ⟨_, rfl⟩
                have hstP : st ≤ P4 := by have := HB.out; omega
                have hLi : (P4 : Int) - (st : Int) = (L : Int) := by omega
                have hUi : IntKind.u16.wrap (L : Int) = (UU : Int) := by rw [IntKind.wrap_u16]; omega
                have HWL := Lib.hid (wsl_any wc g s _ (P4 + wid s P4) (cpOf s P4) _ _ HG4.out.1.at_ HG4.out.1.tabs (wid_le s P4 HB.out.2.2.2.2) hs)
                have HRES2 := HRES
                rw [hL, hUU] at HRES2
                have HLQ := Lib.hid (And.intro hL hUU); have HCQ := Lib.hid hc
                clear hL hUU
                obtain ⟨wb, hwb⟩ : ∃ b, wslA s P4 = b := ⟨_, rfl⟩
                rw [show wslB s (P4 + wid s P4) (cpOf s P4) = wb from hwb] at HWL
                rw [hwb] at HRES2
                clear hwb hc
                go_wp2_with fail
                refine (HWL.out).mono ?_
                rintro e w5 ⟨rfl, hb5⟩
                have HG5 := Lib.hid (show St w0 w g s C st u k f P4 w5 from HG4.out.keep hb5)
                clear hb5 HWL
                obtain ⟨l, c10, c32, c33, c35, c36, c37, fz⟩ := id (HG5.out.1.at_)
                have c39 := HG5.out.1.c39
                have c38 := HG5.out.1.c38
                rw [hLi] at c37
                cases wb with
                | true =>
                  have HPS := Lib.hid (show Go2 w0 w (w5.setCell ⟨g, 38, none⟩ (.int .u16 UU)) g s C P4 st UU k f from HG5.out.set38 UU)
                  dsimp only
                  go_wp2_with fail
                  refine (cn66 HPS.out.1 HB.out.2.2.2.2 hs hstP (ive_no HD.out _ _ (nmE_ge s P4 HB.out.2.2.2.2).2)).mono ?_
                  rintro e w6 ⟨rfl, hg⟩
                  have HG6 := Lib.hid (HPS.out.trans hg)
                  clear hg
                  dsimp only
                  go_wp2_with fail
                  rw [HRES2.out]
                  dsimp only
                  rw [if_pos trivial]
                  exact ⟨rfl, HG6.out⟩
                | false =>
                  rw [HCQ.out] at c35
                  by_cases h37 : c = 37
                  · have hb := (is_cp s P4 HB.out.2.2.2.2 37 (by omega) (by omega)).1 (by rw [HCQ.out]; exact h37)
                    have HBB := Lib.hid hb
                    have hlt := byt_lt_size s P4 (by omega)
                    subst h37
                    clear hb
                    dsimp only
                    go_wp2_with fail
                    refine (step_pla HG5.out.1 hlt (by have := HBB.out; omega) hs hstP).mono ?_
                    rintro e w6 ⟨rfl, hg⟩
                    have HG6 := Lib.hid (HG5.out.trans hg)
                    clear hg
                    dsimp only
                    go_wp2_with fail
                    rw [HRES2.out]
                    dsimp only
                    rw [if_neg (by decide), if_pos HBB.out]
                    exact ⟨rfl, HG6.out⟩
                  · have HBB := Lib.hid (show ¬ byt s P4 = 37 from fun hh => h37 (by rw [← HCQ.out]; exact (is_cp s P4 HB.out.2.2.2.2 37 (by omega) (by omega)).2 hh))
                    have e1 : (c == 37) = false := by rw [beq_eq_false_iff_ne]; exact h37
                    clear h37
                    dsimp only
                    go_wp2_with fail
                    rw [HRES2.out]
                    dsimp only
                    rw [if_neg (by decide), if_neg HBB.out]
                    exact ⟨rfl, HG5.out⟩
end Go.Proofs.YtocciemgdikmjaaDoor
