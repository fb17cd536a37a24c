/-
  zzValidUTF8B4; consumeName whole.
-/
import Derived.Test.YtocciemgdikmjaaDoorR4
namespace Go.Proofs.YtocciemgdikmjaaDoor
open Go.ChangeShapes Go.WideShapes Go.ChangeAt Go.RowKit
open Go.Lib (decodeN decode_at decodeGo encodeRuneZ)
set_option linter.unusedVariables false
set_option maxRecDepth 100000 in
set_option maxHeartbeats 4000000 in
theorem vl38 (s : ByteArray) (hs : s.size ≤ 1048576) (w : World) :
    Calls Tryd.prog 38 #[.string s] w fun e w' => ∃ b : Bool, e = .returned (.bool b) ∧ (b = true → Vd s 0) ∧ Below w.heap.size w w' := by
  go_enter Tryd.func38, Tryd.ntmps38
  go_wp2_with fail
  go_loopw [3] (fun iv w' => ∃ i : Nat, iv = .int .i64 i ∧ i ≤ s.size ∧ Hid ((Vd s i → Vd s 0) ∧ Below w.heap.size w w')) (fun iv w' => s.size - (intOf iv).toNat)
  case atStart => exact ⟨0, rfl, by omega, Lib.hid ⟨id, Below.refl _ _⟩⟩
  case round =>
    obtain ⟨i, rfl, hi, HR⟩ := hrel
    have HV := Lib.hid HR.out.1; have HB := Lib.hid HR.out.2
    by_cases hl : i < s.size
    case neg =>
      obtain rfl : i = s.size := by omega
      have HF := Lib.hid (HV.out (Vd.stop (Nat.le_refl _)))
      go_wp2_with fail
      go_ret
      exact ⟨true, rfl, fun _ => HF.out, HB.out⟩
    have hwl := wid_le s i hi
    have hwp := wid_pos s i hl
    obtain ⟨K, hK⟩ : ∃ K, wid s i = K := ⟨_, rfl⟩
    have hK2 : (decodeGo (s.extract i s.size)).2 = K := hK
    obtain ⟨C, hC⟩ : ∃ C, (decodeGo (s.extract i s.size)).1 = C := ⟨_, rfl⟩
    have HD := Lib.hid (fun w => dz65 s i hl hs w)
    unfold RuneAt at HD
    rw [hK2, hC] at HD
    rw [hK] at hwl hwp
    have HNX := Lib.hid (show ¬ (C = 65533 ∧ K = 1) → Vd s (i + K) → Vd s 0 from fun hne h => HV.out (Vd.step hl (by rw [hC, hK2]; exact hne) (by rw [hK]; exact h)))
    clear hK hK2 hC HR
    have hlI : (i : Int) < (s.size : Int) := by omega
    by_cases c1 : C = 65533
    · by_cases c2 : K = 1
      · subst c1; subst c2
        go_wp2_with fail
        refine (HD.out _).mono ?_
        rintro e w2 ⟨rfl, be⟩
        have HB2 := Lib.hid (HB.out.trans (be.mono HB.out.size))
        clear be
        dsimp only
        go_wp2_with fail
        go_ret
        exact ⟨false, rfl, fun h => by (cases h), HB2.out⟩
      · subst c1
        have e2 : ((K : Int) == 1) = false := flsI _ _ (by omega)
        have HNY := Lib.hid (HNX.out (by omega))
        go_wp2_with fail
        refine (HD.out _).mono ?_
        rintro e w2 ⟨rfl, be⟩
        have HB2 := Lib.hid (HB.out.trans (be.mono HB.out.size))
        clear be c2
        dsimp only
        go_wp2_with fail
        go_roundw
        case rel => exact ⟨i + K, by simp, hwl, Lib.hid ⟨HNY.out, HB2.out⟩⟩
        case measure => simp only [intOf]; omega
    · have e1 : ((C : Int) == 65533) = false := flsI _ _ (by omega)
      have HNY := Lib.hid (HNX.out (by omega))
      go_wp2_with fail
      refine (HD.out _).mono ?_
      rintro e w2 ⟨rfl, be⟩
      have HB2 := Lib.hid (HB.out.trans (be.mono HB.out.size))
      clear be c1
      dsimp only
      go_wp2_with fail
      go_roundw
      case rel => exact ⟨i + K, by simp, hwl, Lib.hid ⟨HNY.out, HB2.out⟩⟩
      case measure => simp only [intOf]; omega
theorem cnm66 {w0 w : World} {g : Nat} {s : ByteArray} {C : Nat → Option Value} {u k f : Int} (h : Pl w0 w g s C 0 0 u k f) (hs : s.size ≤ 1048576) (hV : Vd s 0) (E : Nat) (L : List Int) (hN : Nm s E 0 L) :
    Calls Tryd.prog 66 #[.pointer (some ⟨g, 0, none⟩)] w fun e w' => e = .returned (.string (strOfNums L)) ∧ Go2 w0 w w' g s C E 0 u k f := by
  cases hc : ncB (cpOf s 0) with
  | true =>
    cases hI : escN s (nmE s 0) with
    | true => exact cn66x 0 h (Nat.zero_le _) hs rfl hc (nmE s 0) (0 + wid s 0) rfl rfl hI E L hN hV
    | false =>
      have hg := nmE_ge s 0 (Nat.zero_le _)
      have hgE : nmE s 0 ≤ s.size := hg.2
      obtain ⟨l1, e1, hN1⟩ := nm_run (nmE s 0) 0 L (fun j a b => ⟨by omega, run_inn (fun b => ncB (b : Int)) s 0 (by omega) j a (by unfold nmE at b; omega)⟩) hN
      rw [Nat.zero_add] at hN1
      obtain ⟨e2, e3⟩ := nm_stop hN1 (fun hh => by
        have := run_out (fun b => ncB (b : Int)) s 0 (by omega) (by have := hh.1; unfold nmE at this; exact this)
        have h2 := hh.2
        unfold nmE at h2
        rw [this] at h2; cases h2) hI
      have hst : strOfNums L = s.extract 0 (nmE s 0) := by
        rw [e1, e2, List.append_nil]
        have := str_bytL s 0 (nmE s 0) (by omega)
        rw [Nat.zero_add] at this; exact this
      rw [hst, e3]
      exact cn66 h (Nat.zero_le _) hs (Nat.le_refl 0) (by rw [ive_escN s _ hgE]; exact hI)
  | false =>
    have hE : nmE s 0 = 0 := by rw [nmE_cp s 0 (Nat.zero_le _), if_neg (by rw [hc]; simp)]
    cases hI : escN s 0 with
    | true => exact cn66y 0 h (Nat.zero_le _) hs rfl hc hI E L hN hV
    | false =>
      obtain ⟨e2, e3⟩ := nm_stop hN (fun hh => by
        rw [← nc_cp s 0 hh.1, hc] at hh; exact absurd hh.2 (by simp)) hI
      have hst : strOfNums L = s.extract 0 (nmE s 0) := by
        rw [e2, hE]
        have := str_bytL s 0 0 (by omega)
        exact this
      subst e3
      have hm := cn66 h (Nat.zero_le _) hs (Nat.le_refl 0) (by rw [hE, ive_escN s _ (Nat.zero_le _)]; exact hI)
      rw [← hst, hE] at hm
      exact hm
end Go.Proofs.YtocciemgdikmjaaDoor
