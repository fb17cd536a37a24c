/-
  The walk of FnNextMatchesTokenModelOnSmallAlphabet.
-/
import Derived.Test.YtocciemgdikmjaaDoorL5
import Derived.Test.YtocciemgdikmjaaDoorL6
namespace Go.Proofs.YtocciemgdikmjaaDoor
open Go.ChangeShapes Go.WideShapes Go.ChangeAt Go.RowKit
open Go.Lib (decodeN decode_at decodeGo)
set_option linter.unusedVariables false
theorem zb30 (s : ByteArray) (w0 : s.size ≤ maxLen) (w : World) : Calls Tryd.prog 30 #[.string s] w fun e w' => e = .returned (.bool (decide (s.size ≤ 1048576))) ∧ w = w' := by
  by_cases h : s.size ≤ 1048576
  · have HR := Lib.hid (show decide (s.size ≤ 1048576) = true from decide_eq_true h)
    go_enter Tryd.func30, Tryd.ntmps30
    go_wp2_with fail
    go_ret
    exact ⟨ret_bool HR.out.symm, rfl⟩
  · have HR := Lib.hid (show decide (s.size ≤ 1048576) = false from decide_eq_false h)
    go_enter Tryd.func30, Tryd.ntmps30
    go_wp2_with fail
    go_ret
    exact ⟨ret_bool HR.out.symm, rfl⟩
set_option maxRecDepth 100000 in
set_option maxHeartbeats 8000000 in
theorem FnNextMatchesTokenModelOnSmallAlphabet_walk (a0 : ByteArray) (w0 : a0.size ≤ maxLen) (w : World) (hT : Lib.Utf8Tabs 0 1 w) :
    Calls Tryd.prog 7 #[.string a0] w fun e w' => e = .returned (.bool true) ∧ Below w.heap.size w w' := by
  have HT := Lib.hid hT
  have HZ := Lib.hid (zb30 a0 w0 w)
  clear hT
  go_enter Tryd.func7, Tryd.ntmps7
  go_wp2_with fail
  refine (HZ.out).mono ?_
  rintro e w1 ⟨rfl, rfl⟩
  by_cases hs : a0.size ≤ 1048576
  case neg =>
    rw [decide_eq_false hs]
    clear hs
    dsimp only
    go_wp2_with fail
    go_ret
    exact ⟨rfl, Below.refl _ _⟩
  rw [decide_eq_true hs]
  have HDM := Lib.hid (sd31 a0 hs w)
  dsimp only
  go_wp2_with fail
  refine (HDM.out).mono ?_
  rintro e w1 ⟨⟨b, rfl, hb⟩, rfl⟩
  have HB := Lib.hid hb
  clear hb
  dsimp only
  cases b with
  | false =>
    go_wp2_with fail
    go_ret
    exact ⟨rfl, Below.refl _ _⟩
  | true =>
    have HS := Lib.hid (HB.out rfl).1
    have HD := Lib.hid (HB.out rfl).1.dom
    have HU := Lib.hid (HB.out rfl).2
    clear HB
    go_wp2_with fail
    refine (nl32 a0 false _).mono ?_
    rintro e w1 ⟨rfl, rfl⟩
    dsimp only
    go_wp2_with fail
    refine (st33 (lexN_CL w a0 false) (tabs_below HT.out ((Below.refl w.heap.size w).alloc (Nat.le_refl _) _)) hs).mono ?_
    rintro e w2 ⟨rfl, ha, hst⟩
    obtain ⟨C, hC⟩ : ∃ C : Nat → Option Value, (fun i => w2.cell? ⟨w.heap.size, i, none⟩) = C := ⟨_, rfl⟩
    have HG0 := Lib.hid (show RelN w a0 C 0 w2 from ⟨0, 0, 0, 0, Nat.le_refl _, Nat.zero_le _, by rw [← hC]; exact fresh_pl w w2 a0 false HT.out ha hst⟩)
    clear ha hst hC
    dsimp only
    go_wp2_with fail
    go_loopg [4, 5] (a0.size + 1) (fun n pv kv wx => ∃ p k : Nat, pv = .int .i64 p ∧ kv = .int .i64 k ∧ k ≤ p ∧ p ≤ a0.size ∧ Hid (n + p = a0.size + 1 ∧ RelN w a0 C p wx))
    case atStart => exact ⟨0, 0, rfl, rfl, Nat.le_refl _, Nat.zero_le _, Lib.hid ⟨rfl, HG0.out⟩⟩
    case round =>
      obtain ⟨p, k, rfl, rfl, hkp, hp, HR⟩ := hrel
      obtain ⟨st, u, kk, f, hst, _, hg⟩ := HR.out.2
      have HG := Lib.hid hg
      have HN := Lib.hid (nt34 hg.1 hp hs hst HD.out HU.out)
      have HM := Lib.hid (fun w => mt36 a0 p hs hp w)
      have hu0 := mtok_u a0 p
      rw [sm_tok HS.out p] at HM hu0
      obtain ⟨T, hT⟩ : ∃ T, tok a0 p = T := ⟨_, rfl⟩
      rw [hT] at HN HM hu0
      have HTK := Lib.hid hT
      clear hg hT
      cases T with
      | mk tk te tu tf =>
      dsimp only at hu0
      subst hu0
      have hk1 : (k : Int) ≤ (a0.size : Int) + 1 := by omega
      go_wp2_with fail
      refine (HN.out).mono ?_
      rintro e w3 ⟨rfl, hg⟩
      have HG1 := Lib.hid (show Go2 w w w3 w.heap.size a0 C te p (0 : Nat) tk tf from HG.out.trans hg)
      clear hg
      have HTV := Lib.hid (tk35 HG1.out.1)
      dsimp only
      go_wp2_with fail
      refine (HTV.out).mono ?_
      rintro e w4 ⟨rfl, be⟩
      have HG2 := Lib.hid (HG1.out.keep be)
      unfold tokV
      clear be
      dsimp only
      have HG4 := Lib.hid (HG2.out.keep ((Below.refl w4.heap.size w4).alloc (Nat.le_refl _) (.cells #[.int .i32 (p : Int), .int .i32 ((te : Int) - (p : Int)), .int .u16 ((0 : Nat) : Int), .int .u8 ((tk : Nat) : Int), .int .u8 ((tf : Nat) : Int)] 41)))
      by_cases hlt : p < a0.size
      case neg =>
        have hpe : p = a0.size := by omega
        have ht0 : tok a0 a0.size = ⟨0, a0.size, 0, 0⟩ := by unfold tok; rw [if_pos (Nat.le_refl _)]
        have hT0 : (⟨tk, te, 0, tf⟩ : Tok) = ⟨0, a0.size, 0, 0⟩ := by rw [← HTK.out, hpe]; exact ht0
        injection hT0 with ek ee _ ef
        subst ek ee ef
        subst hpe
        clear ht0 hlt hp HR
        go_wp2_with fail
        refine (HM.out _).mono ?_
        rintro e w5 ⟨rfl, rfl⟩
        unfold mtV
        dsimp only
        go_wp2_with fail
        go_ret
        exact ⟨by simp, (HG2.out.keep ((Below.refl w4.heap.size w4).alloc (Nat.le_refl _) _)).1.be⟩
      have OK := tok_ok HD.out p hlt
      rw [HTK.out] at OK
      obtain ⟨e1, e2, k0, k1, fl, un, nu⟩ := OK
      dsimp only at e1 e2 k0 k1
      clear nu fl un
      have HRQ := Lib.hid HR.out.1
      clear HR HG2 HG1 HTV
      have d0 : ((tk : Int) == 0) = false := flsI _ _ (by omega)
      have hte : te ≤ 1048576 := by omega
      have HE := Lib.hid (And.intro e1 e2)
      have HNX := Lib.hid (show RelN w a0 C te (w4.alloc (.cells #[.int .i32 (p : Int), .int .i32 ((te : Int) - (p : Int)), .int .u16 ((0 : Nat) : Int), .int .u8 (tk : Int), .int .u8 (tf : Int)] 41)) from ⟨p, 0, tk, tf, by omega, e2, HG4.out⟩)
      clear k0 HG4
      go_wp2_with fail
      refine (HM.out _).mono ?_
      rintro e w5 ⟨rfl, rfl⟩
      unfold mtV
      dsimp only
      go_wp2_with fail
      go_roundg (a0.size + 1 - te)
      case measure => have := HRQ.out; have := HE.out.1; have := HE.out.2; omega
      case rel => exact ⟨te, k + 1, by simp, by simp, by have := HE.out.1; omega, HE.out.2, Lib.hid ⟨by have := HE.out.2; omega, HNX.out⟩⟩
end Go.Proofs.YtocciemgdikmjaaDoor
