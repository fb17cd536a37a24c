/-
  The walk of FnNextTilesTheInputAndCountsEveryNewline.
-/
import Derived.Test.YtocciemgdikmjaaDoorD14
import Derived.Test.YtocciemgdikmjaaDoorL2
import Derived.Test.YtocciemgdikmjaaDoorL3
import Derived.Test.YtocciemgdikmjaaDoorL4
namespace Go.Proofs.YtocciemgdikmjaaDoor
open Go.ChangeShapes Go.WideShapes Go.ChangeAt Go.RowKit
open Go.Lib (decodeN decode_at decodeGo)
set_option linter.unusedVariables false
theorem zb44 (s : ByteArray) (w0 : s.size ≤ maxLen) (w : World) : Calls Tryd.prog 44 #[.string s] w fun e w' => e = .returned (.bool (decide (s.size ≤ 1048576))) ∧ w = w' := by
  by_cases h : s.size ≤ 1048576
  · have HR := Lib.hid (show decide (s.size ≤ 1048576) = true from decide_eq_true h)
    go_enter Tryd.func44, Tryd.ntmps44
    go_wp2_with fail
    go_ret
    exact ⟨ret_bool HR.out.symm, rfl⟩
  · have HR := Lib.hid (show decide (s.size ≤ 1048576) = false from decide_eq_false h)
    go_enter Tryd.func44, Tryd.ntmps44
    go_wp2_with fail
    go_ret
    exact ⟨ret_bool HR.out.symm, rfl⟩
theorem nt34 {w0 w : World} {g : Nat} {s : ByteArray} {C : Nat → Option Value} {p st : Nat} {u k f : Int} (h : Pl w0 w g s C p st u k f) (hp : p ≤ s.size) (hs : s.size ≤ 1048576) (hst : st ≤ p) (hD : Dom s) (hU : NoUrl s) :
    Calls Tryd.prog 34 #[.pointer (some ⟨g, 0, none⟩)] w fun e w' => e = .returned (.tuple #[]) ∧ Go2 w0 w w' g s C (tok s p).e p (tok s p).u (tok s p).k (tok s p).f := by
  have HS := Lib.hid (next63 h hp hs hst hD hU)
  clear h hD hU
  go_enter Tryd.func34, Tryd.ntmps34
  go_wp2_with fail
  refine (HS.out).mono ?_
  rintro e w2 ⟨rfl, hg⟩
  have HG := Lib.hid hg
  clear hg
  dsimp only
  go_wp2_with fail
  go_end0
  exact ⟨rfl, HG.out⟩
/-- a fresh lexer, stepped once -/
theorem fresh_pl (w w2 : World) (s : ByteArray) (b : Bool) (hT : Lib.Utf8Tabs 0 1 w) (ha : At w2 w.heap.size s 0 0) (hs : Stepped (w.alloc (.cells (lexN s b) 73)) w2 w.heap.size) :
    Go2 w w w2 w.heap.size s (fun i => w2.cell? ⟨w.heap.size, i, none⟩) 0 0 0 0 0 := by
  have hb0 : Below w.heap.size w (w.alloc (.cells (lexN s b) 73)) := (Below.refl w.heap.size w).alloc (Nat.le_refl _) _
  have hb := hb0.trans (stepped_below hs hb0.size (Nat.le_refl _))
  refine ⟨⟨ha, ?_, ?_, ?_, fun i _ => rfl, hT, hb, Nat.le_refl _⟩, grown_below hb⟩
  · rw [hs.cells _ (by omega) (by omega) (by omega) (by omega), lexN_cell, lexN_38]
  · rw [hs.cells _ (by omega) (by omega) (by omega) (by omega), lexN_cell, lexN_39]
  · rw [hs.cells _ (by omega) (by omega) (by omega) (by omega), lexN_cell, lexN_40]
def RelN (w : World) (s : ByteArray) (C : Nat → Option Value) (p : Nat) (w' : World) : Prop := ∃ st u k f, st ≤ p ∧ p ≤ s.size ∧ Go2 w w w' w.heap.size s C p st u k f
set_option maxRecDepth 100000 in
set_option maxHeartbeats 8000000 in
theorem FnNextTilesTheInputAndCountsEveryNewline_walk (a0 : ByteArray) (w0 : a0.size ≤ maxLen) (w : World) (hT : Lib.Utf8Tabs 0 1 w) :
    Calls Tryd.prog 9 #[.string a0] w fun e w' => e = .returned (.bool true) ∧ Below w.heap.size w w' := by
  have HT := Lib.hid hT
  have HZ := Lib.hid (zb44 a0 w0 w)
  clear hT
  go_enter Tryd.func9, Tryd.ntmps9
  go_wp2_with fail
  refine (HZ.out).mono ?_
  rintro e w1 ⟨rfl, rfl⟩
  by_cases hs : a0.size ≤ 1048576
  case neg =>
    rw [decide_eq_false hs]
    clear hs
    dsimp only
    go_wp2_with fail
    go_ret
    exact ⟨rfl, Below.refl _ _⟩
  rw [decide_eq_true hs]
  have HDM := Lib.hid (dom45 a0 hs w)
  dsimp only
  go_wp2_with fail
  refine (HDM.out).mono ?_
  rintro e w1 ⟨⟨b, rfl, hb⟩, rfl⟩
  have HB := Lib.hid hb
  clear hb
  dsimp only
  cases b with
  | false =>
    go_wp2_with fail
    go_ret
    exact ⟨rfl, Below.refl _ _⟩
  | true =>
    have HD := Lib.hid (HB.out rfl).1
    have HU := Lib.hid (HB.out rfl).2
    clear HB
    go_wp2_with fail
    refine (nl32 a0 false _).mono ?_
    rintro e w1 ⟨rfl, rfl⟩
    dsimp only
    go_wp2_with fail
    refine (st33 (lexN_CL w a0 false) (tabs_below HT.out ((Below.refl w.heap.size w).alloc (Nat.le_refl _) _)) hs).mono ?_
    rintro e w2 ⟨rfl, ha, hst⟩
    obtain ⟨C, hC⟩ : ∃ C : Nat → Option Value, (fun i => w2.cell? ⟨w.heap.size, i, none⟩) = C := ⟨_, rfl⟩
    have HG0 := Lib.hid (show RelN w a0 C 0 w2 from ⟨0, 0, 0, 0, Nat.le_refl _, Nat.zero_le _, by rw [← hC]; exact fresh_pl w w2 a0 false HT.out ha hst⟩)
    clear ha hst hC
    dsimp only
    go_wp2_with fail
    go_loopg [4, 5] (a0.size + 1) (fun n pv kv wx => ∃ p k : Nat, pv = .int .i64 p ∧ kv = .int .i64 k ∧ k ≤ p ∧ p ≤ a0.size ∧ Hid (n + p = a0.size + 1 ∧ RelN w a0 C p wx))
    case atStart => exact ⟨0, 0, rfl, rfl, Nat.le_refl _, Nat.zero_le _, Lib.hid ⟨rfl, HG0.out⟩⟩
    case round =>
      obtain ⟨p, k, rfl, rfl, hkp, hp, HR⟩ := hrel
      obtain ⟨st, u, kk, f, hst, _, hg⟩ := HR.out.2
      have HG := Lib.hid hg
      have HN := Lib.hid (nt34 hg.1 hp hs hst HD.out HU.out)
      obtain ⟨T, hT⟩ : ∃ T, tok a0 p = T := ⟨_, rfl⟩
      rw [hT] at HN
      have HTK := Lib.hid hT
      clear hg hT
      have hk1 : (k : Int) ≤ (a0.size : Int) + 1 := by omega
      go_wp2_with fail
      refine (HN.out).mono ?_
      rintro e w3 ⟨rfl, hg⟩
      have HG1 := Lib.hid (HG.out.trans hg)
      have HTV := Lib.hid (tk35 hg.1)
      clear hg
      dsimp only
      go_wp2_with fail
      refine (HTV.out).mono ?_
      rintro e w4 ⟨rfl, be⟩
      have HG2 := Lib.hid (HG1.out.keep be)
      unfold tokV
      clear be
      dsimp only
      by_cases hlt : p < a0.size
      case neg =>
        have hpe : p = a0.size := by omega
        have ht0 : tok a0 a0.size = ⟨0, a0.size, 0, 0⟩ := by unfold tok; rw [if_pos (Nat.le_refl _)]
        have hT0 : T = ⟨0, a0.size, 0, 0⟩ := by rw [← HTK.out, hpe]; exact ht0
        subst hT0
        subst hpe
        have HG3 := Lib.hid (show Go2 w w w4 w.heap.size a0 C a0.size a0.size 0 0 0 from HG2.out)
        rw [show ((a0.size : Nat) : Int) - ((a0.size : Nat) : Int) = 0 by omega]
        have HG4 := Lib.hid (HG3.out.keep ((Below.refl w4.heap.size w4).alloc (Nat.le_refl _) (.cells #[.int .i32 (a0.size : Int), .int .i32 0, .int .u16 ((0 : Nat) : Int), .int .u8 ((0 : Nat) : Int), .int .u8 ((0 : Nat) : Int)] 41)))
        have HN2 := Lib.hid (nt34 HG4.out.1 (Nat.le_refl _) hs (Nat.le_refl _) HD.out HU.out)
        rw [ht0] at HN2
        clear ht0 hlt hp
        go_wp2_with fail
        refine (HN2.out).mono ?_
        rintro e w5 ⟨rfl, hg⟩
        have HG5 := Lib.hid (show Go2 w w w5 w.heap.size a0 C a0.size a0.size 0 0 0 from HG4.out.trans hg)
        clear hg
        have HTV2 := Lib.hid (tk35 HG5.out.1)
        rw [show ((a0.size : Nat) : Int) - ((a0.size : Nat) : Int) = 0 by omega] at HTV2
        dsimp only
        go_wp2_with fail
        refine (HTV2.out).mono ?_
        rintro e w6 ⟨rfl, be⟩
        have HG6 := Lib.hid ((HG5.out.keep be).keep ((Below.refl w6.heap.size w6).alloc (Nat.le_refl _) (.cells #[.int .i32 (a0.size : Int), .int .i32 0, .int .u16 0, .int .u8 0, .int .u8 0] 41)))
        have H46 := Lib.hid (cp46 HG6.out.1)
        have H47 := Lib.hid (cu47 HG6.out.1)
        have H48 := Lib.hid (nl48 HG6.out.1)
        have hcz : cnt a0 (a0.size + 1) = cnt a0 a0.size := by rw [cnt_succ, if_neg (by omega)]; rfl
        rw [cp_end] at H46
        rw [wid_end, Nat.add_zero] at H47
        rw [hcz] at H48
        have H49 := Lib.hid (fun w => cb49 a0 hs w)
        unfold tokV
        clear be hcz
        dsimp only
        go_wp2_with fail
        refine (H46.out).mono ?_
        rintro e w7 ⟨rfl, rfl⟩
        dsimp only
        go_wp2_with fail
        refine (H47.out).mono ?_
        rintro e w7 ⟨rfl, rfl⟩
        dsimp only
        go_wp2_with fail
        refine (H48.out).mono ?_
        rintro e w7 ⟨rfl, rfl⟩
        dsimp only
        go_wp2_with fail
        refine (H49.out _).mono ?_
        rintro e w7 ⟨rfl, rfl⟩
        dsimp only
        go_wp2_with fail
        go_ret
        exact ⟨by simp, HG6.out.1.be⟩
      have OK := tok_ok HD.out p hlt
      rw [HTK.out] at OK
      cases T with
      | mk tk te tu tf =>
      obtain ⟨e1, e2, k0, k1, fl, un, nu⟩ := OK
      dsimp only at e1 e2 k0 k1 fl un
      have HRQ := Lib.hid HR.out.1
      have HG3 := Lib.hid (show Go2 w w w4 w.heap.size a0 C te p tu tk tf from HG2.out)
      clear nu HR HG2 HG1 HTV
      obtain ⟨L, hL⟩ : ∃ L, te - p = L := ⟨_, rfl⟩
      have hLi : (te : Int) - (p : Int) = (L : Int) := by omega
      have hpL : (p : Int) + (L : Int) = (te : Int) := by omega
      have hL1 : 1 ≤ L := by omega
      have hL2 : L ≤ 1048576 := by omega
      have hte : te ≤ 1048576 := by omega
      have d0 : ((tk : Int) == 0) = false := flsI _ _ (by omega)
      have d39 : ((tk : Int) == 39) = false := flsI _ _ (by omega)
      have HE := Lib.hid (And.intro e1 (And.intro e2 hL))
      rw [hL] at un
      rw [hLi]
      have HNX := Lib.hid (show RelN w a0 C te (w4.alloc (.cells #[.int .i32 (p : Int), .int .i32 (L : Int), .int .u16 (tu : Int), .int .u8 (tk : Int), .int .u8 (tf : Int)] 41)) from ⟨p, tu, tk, tf, by omega, e2, HG3.out.keep ((Below.refl w4.heap.size w4).alloc (Nat.le_refl _) _)⟩)
      clear hL k0 k1
      by_cases k28 : tk = 28
      · subst k28
        rw [if_pos rfl] at fl
        rw [if_neg (by omega)] at un
        subst un
        rcases (show tf = 0 ∨ tf = 1 by omega) with rfl | rfl
        all_goals
          clear fl
          go_wp2_with fail
          go_roundg (a0.size + 1 - te)
          case measure => have := HRQ.out; have := HE.out.1; have := HE.out.2.1; omega
          case rel => exact ⟨te, k + 1, by simp, by simp, by have := HE.out.1; omega, HE.out.2.1, Lib.hid ⟨by have := HE.out.2.1; omega, HNX.out⟩⟩
      · rw [if_neg k28] at fl
        subst fl
        have d28 : ((tk : Int) == 28) = false := flsI _ _ (by omega)
        by_cases k26 : tk = 26
        · subst k26
          rw [if_pos rfl] at un
          obtain ⟨un1, un2⟩ := un
          by_cases hl65 : L ≤ 65535
          · obtain ⟨u1, u2⟩ := un1 hl65
            have q1 : decide ((tu : Int) < 1) = false := decide_eq_false (by omega)
            have q2 : decide ((L : Int) ≤ (tu : Int)) = false := decide_eq_false (by omega)
            clear un1 k28
            go_wp2_with fail
            go_roundg (a0.size + 1 - te)
            case measure => have := HRQ.out; have := HE.out.1; have := HE.out.2.1; omega
            case rel => exact ⟨te, k + 1, by simp, by simp, by have := HE.out.1; omega, HE.out.2.1, Lib.hid ⟨by have := HE.out.2.1; omega, HNX.out⟩⟩
          · clear un1 k28
            go_wp2_with fail
            go_roundg (a0.size + 1 - te)
            case measure => have := HRQ.out; have := HE.out.1; have := HE.out.2.1; omega
            case rel => exact ⟨te, k + 1, by simp, by simp, by have := HE.out.1; omega, HE.out.2.1, Lib.hid ⟨by have := HE.out.2.1; omega, HNX.out⟩⟩
        · rw [if_neg k26] at un
          subst un
          have d26 : ((tk : Int) == 26) = false := flsI _ _ (by omega)
          clear k28 k26
          go_wp2_with fail
          go_roundg (a0.size + 1 - te)
          case measure => have := HRQ.out; have := HE.out.1; have := HE.out.2.1; omega
          case rel => exact ⟨te, k + 1, by simp, by simp, by have := HE.out.1; omega, HE.out.2.1, Lib.hid ⟨by have := HE.out.2.1; omega, HNX.out⟩⟩
end Go.Proofs.YtocciemgdikmjaaDoor
