/-
  The walk of FnIsNumericExactlyForTokensThatStartANumber.
-/
import Derived.Test.YtocciemgdikmjaaDoorM4
import Derived.Test.YtocciemgdikmjaaDoorN1
namespace Go.Proofs.YtocciemgdikmjaaDoor
open Go.ChangeShapes Go.WideShapes Go.ChangeAt Go.RowKit
open Go.Lib (decodeN decode_at decodeGo)
set_option linter.unusedVariables false
theorem safe_dom {s : ByteArray} (h : ∀ i, i < s.size → sfC (byt s i) = true) : Dom s ∧ NoUrl s := by
  have h2 : ∀ i, i < s.size → ¬ (byt s i = 47 ∨ byt s i = 92 ∨ byt s i = 34 ∨ byt s i = 39 ∨ byt s i = 40) := fun i hi => by
    have := h i hi; unfold sfC at this; simpa using this
  exact ⟨fun i hi => by have := h2 i hi; omega, fun i hi => by have := h2 (i + 3) (by omega); omega⟩
theorem pos_ge {s : ByteArray} (hD : Dom s) (p : Nat) : ∀ j, (∀ i, i < j → pos s p i < s.size) → j ≤ pos s p j
  | 0, _ => Nat.zero_le _
  | j + 1, h => by
    have h1 := pos_ge hD p j (fun i hi => h i (by omega))
    have h2 := (tok_ok hD (pos s p j) (h j (by omega))).e1
    show j + 1 ≤ (tok s (pos s p j)).e
    omega
@[go_sem] theorem fld34 (a : Option Addr) (J c : Nat) (n : Int) (w : World) : (Instr.field 34 (.agg #[.slice a J c, .slice none 0 0, .slice none 0 0, .string ⟨#[]⟩, .int .i32 0, .int .i32 0, .int .i32 n]) 0).run Tryd.prog w = .ok (.slice a J c) w := by kernel_rfl
theorem sizeTk : (Tryd.prog.info? 41).map (·.size) = some 5 := by kernel_rfl
set_option maxRecDepth 100000 in
set_option maxHeartbeats 8000000 in
theorem FnIsNumericExactlyForTokensThatStartANumber_walk (a0 : ByteArray) (w0 : a0.size ≤ maxLen) (w : World) (hT : Lib.Utf8Tabs 0 1 w) :
    Calls Tryd.prog 5 #[.string a0] w fun e w' => e = .returned (.bool true) ∧ Below w.heap.size w w' := by
  have HT := Lib.hid hT
  have HZ := Lib.hid (zb5_any a0 w0 w)
  have HSF := Lib.hid (fun c w => sf_any c w)
  have HNU := Lib.hid (fun c w => nu_any c w)
  have hsz := sizeTk
  clear hT
  go_enter Tryd.func5, Tryd.ntmps5
  go_wp2_with fail
  refine (HZ.out).mono ?_
  rintro e w1 ⟨rfl, rfl⟩
  by_cases hs : a0.size ≤ 1048576
  case neg =>
    rw [decide_eq_false hs]
    clear hs
    dsimp only
    go_wp2_with fail
    go_ret
    exact ⟨rfl, Below.refl _ _⟩
  rw [decide_eq_true hs]
  dsimp only
  by_cases h6 : 60000 < a0.size
  · have d6 : (60000 : Int) < (a0.size : Int) := by omega
    go_wp2_with fail
    go_ret
    exact ⟨rfl, Below.refl _ _⟩
  have d6 : ¬ (60000 : Int) < (a0.size : Int) := by omega
  have hs6 : a0.size ≤ 60000 := by omega
  clear h6
  go_wp2_with fail
  go_loopw [3] (fun a w' => ∃ i : Nat, a = .int .i64 i ∧ w = w' ∧ i ≤ a0.size ∧ Hid (∀ q, q < i → sfC (byt a0 q) = true)) (fun a w' => a0.size - (intOf a).toNat)
  case atStart => exact ⟨0, rfl, rfl, by omega, Lib.hid (fun q hq => absurd hq (by omega))⟩
  case round =>
    obtain ⟨i, rfl, rfl, hi, HA⟩ := hrel
    by_cases hlt : i < a0.size
    case pos =>
      obtain ⟨b, hb⟩ : ∃ b, (a0[i]'hlt).toNat = b := ⟨_, rfl⟩
      have g0 : ((a0[i]'hlt).toNat : Int) = (b : Int) := by omega
      have HY := Lib.hid (show byt a0 i = b by rw [← byt_at a0 i hlt]; exact hb)
      clear hb
      go_wp2_with fail
      refine (HSF.out b _).mono ?_
      rintro e w2 ⟨rfl, rfl⟩
      dsimp only
      cases hw : sfC b with
      | true =>
        have HS := Lib.hid (show ∀ q, q < i + 1 → sfC (byt a0 q) = true from fun q hq => by
          by_cases hqi : q < i
          · exact HA.out q hqi
          · obtain rfl : q = i := by omega
            rw [HY.out]; exact hw)
        clear hw
        go_wp2_with fail
        go_roundw
        case rel => exact ⟨i + 1, by simp, by trivial, by omega, HS⟩
        case measure => simp only [intOf]; omega
      | false =>
        clear hw
        go_wp2_with fail
        go_ret
        exact ⟨rfl, Below.refl _ _⟩
    have hdm := safe_dom (s := a0) (fun q hq => HA.out q (by omega))
    have HTZ := Lib.hid (zt12 a0 false w HT.out hs hdm.1 hdm.2)
    have HD := Lib.hid hdm.1
    have hdm1 := hdm.1
    have HSN := Lib.hid (fun p (hp : p < a0.size) w => sn_any a0 p hs hp w)
    clear hdm HA
    go_wp2_with fail
    refine (HTZ.out).mono ?_
    rintro e w5 ⟨v, J, rfl, hlj, hJ, hrow, hbe⟩
    obtain ⟨a, c, rfl⟩ := row_slice hrow
    have HV := Lib.hid (And.intro hlj (And.intro hJ (And.intro hrow hbe)))
    have hJs : J ≤ 60000 := by have := pos_ge hdm1 (bomE a0) J hlj; omega
    clear hlj hJ hrow hbe HTZ
    unfold resL
    dsimp only
    go_wp2_with fail
    go_loopw [30] (fun i wx => ∃ j : Nat, i = .int .i64 j ∧ j ≤ J ∧ Hid (Below w5.heap.size w5 wx)) (fun i wx => J - (intOf i).toNat)
    case atStart => exact ⟨0, rfl, Nat.zero_le _, Lib.hid (Below.refl _ _)⟩
    case round =>
      obtain ⟨j, rfl, hj, HB⟩ := hrel
      by_cases hlt2 : j < J
      case neg =>
        have h2 : ¬ (j : Int) < (J : Int) := by omega
        go_wp2_with fail
        go_ret
        exact ⟨rfl, HV.out.2.2.2.trans (HB.out.mono HV.out.2.2.2.size)⟩
      obtain ⟨g, rfl, hg1, hg2, hcell⟩ := row_cell HV.out.2.2.1 (by omega)
      have hb := HB.out
      obtain ⟨p, hp⟩ : ∃ p, pos a0 (bomE a0) j = p := ⟨_, rfl⟩
      have hpl : p < a0.size := by rw [← hp]; exact HV.out.1 j hlt2
      have hget : ∀ d, d < 5 → (tkC a0 (bomE a0) J)[j * 5 + d]? = (tkA a0 p)[d]? := fun d hd => by rw [tkC_get a0 (bomE a0) j d hd J hlt2, hp]
      have OK := tok_ok HD.out p hpl
      obtain ⟨T, hT⟩ : ∃ T, tok a0 p = T := ⟨_, rfl⟩
      unfold tkA at hget
      rw [hT] at OK hget
      cases T with
      | mk tk te tu tf =>
      obtain ⟨e1, e2, k0, k1, fl, un, nu⟩ := OK
      dsimp only at nu hget
      have HNK := Lib.hid (show nuK tk = snB a0 p from by
        unfold nuK
        cases hsn : snB a0 p with
        | true => have := nu.2 hsn; exact decide_eq_true (by omega)
        | false => exact decide_eq_false (fun hh => by have := nu.1 (by omega); rw [hsn] at this; cases this))
      have hc : ∀ i, i < J * 5 → ∀ W : World, Below w5.heap.size w5 W → W.cell? ⟨g, i, none⟩ = (tkC a0 (bomE a0) J)[i]? := fun i hi W hW => by rw [hW.cell hg2]; exact hcell i hi
      have q0 := (hc (j * 5 + 0) (by omega) _ hb).trans (hget 0 (by omega))
      have q1 := (hc (j * 5 + 1) (by omega) _ hb).trans (hget 1 (by omega))
      have q2 := (hc (j * 5 + 2) (by omega) _ hb).trans (hget 2 (by omega))
      have q3 := (hc (j * 5 + 3) (by omega) _ hb).trans (hget 3 (by omega))
      have q4 := (hc (j * 5 + 4) (by omega) _ hb).trans (hget 4 (by omega))
      simp only [Nat.add_zero, List.getElem?_cons_zero, List.getElem?_cons_succ] at q0 q1 q2 q3 q4
      have h2 : (j : Int) < (J : Int) := by omega
      have hp2 : (p : Int) < (a0.size : Int) := by omega
      have HSP := Lib.hid (fun w => HSN.out p hpl w)
      clear hp hcell hget nu k0 k1 fl un hc hb hT e1 e2
      go_wp2_with fail
      refine (HNU.out tk _).mono ?_
      rintro e w6 ⟨rfl, rfl⟩
      rw [HNK.out]
      dsimp only
      go_wp2_with fail
      refine (HSP.out _).mono ?_
      rintro e w6 ⟨rfl, rfl⟩
      dsimp only
      have HBN := Lib.hid (HB.out.alloc HB.out.size (.cells #[.int .i32 (p : Int), .int .i32 ((te : Int) - (p : Int)), .int .u16 (tu : Int), .int .u8 (tk : Int), .int .u8 (tf : Int)] 41))
      cases snB a0 p with
      | true =>
        go_wp2_with fail
        go_roundw
        case rel => exact ⟨j + 1, by simp, by omega, HBN⟩
        case measure => simp only [intOf]; omega
      | false =>
        go_wp2_with fail
        go_roundw
        case rel => exact ⟨j + 1, by simp, by omega, HBN⟩
        case measure => simp only [intOf]; omega
end Go.Proofs.YtocciemgdikmjaaDoor
