/-
  consumeName where no escape follows the name.
-/
import Derived.Test.YtocciemgdikmjaaDoorD1
import Derived.Test.YtocciemgdikmjaaDoorC4
import Derived.Deep.DeepCutAuto
namespace Go.Proofs.YtocciemgdikmjaaDoor
open Go.ChangeShapes Go.WideShapes Go.ChangeAt Go.RowKit
open Go.Lib (decodeN decode_at decodeGo)
set_option linter.unusedVariables false
/-- the place put on to E by hand, then a step -/
theorem step_jump {w0 w : World} {g : Nat} {s : ByteArray} {C : Nat → Option Value} {p st : Nat} {u k f : Int} (h : Pl w0 w g s C p st u k f) (E : Nat) (hpE : p < E) (hE : E ≤ s.size) (hs : s.size ≤ 1048576) (hst : st ≤ p) (hn : ∀ j, p < j → j < E → byt s j ≠ 10) :
    Calls Tryd.prog 54 #[.pointer (some ⟨g, 0, none⟩)] (w.setCell ⟨g, 33, none⟩ (.int .i64 E)) fun e w' => e = .returned (.tuple #[]) ∧ Go2 w0 w w' g s C E st u k f := by
  have h2 := cnt_le s (p + 1)
  have hS := (Stepped.refl w g).set 33 (.int .i64 E) (by simp)
  have hb := below_set h.be h.lo 33 (.int .i64 E)
  refine (step_any _ g s _ E _ _ _ (CL.set33 h.at_ (E : Int)) (tabs_below h.tb hb) hE hs (by omega) (by omega) (by omega) (by omega)).mono ?_
  rintro e w' ⟨rfl, hc, hs'⟩
  have hS2 := hS.trans hs'
  refine ⟨rfl, h.stepped hS2 ?_, hS2.by_⟩
  unfold At
  rw [cnt_one s E hE, cnt_same s (p + 1) E (by omega) (fun j a b => fun hh => hn j (by omega) b hh.2)]
  have e2 : ((cnt s (p + 1) + (if cpOf s E = 10 then 1 else 0) : Nat) : Int) = (if cpOf s E = 10 then ((cnt s (p + 1) : Nat) : Int) + 1 else (cnt s (p + 1) : Nat)) := by split <;> simp
  rw [e2]
  exact hc
theorem nc_no10 (b : Nat) (h : ncB (b : Int) = true) : b ≠ 10 := by
  rintro rfl; revert h; decide
/-- what is told of a place behind a call, put aside -/
def Hg (w0 w w' : World) (g : Nat) (s : ByteArray) (C : Nat → Option Value) (p st : Nat) (u k f : Int) : Prop := Go2 w0 w w' g s C p st u k f
set_option maxRecDepth 100000 in
set_option maxHeartbeats 4000000 in
theorem cn66a {w0 w : World} {g : Nat} {s : ByteArray} {C : Nat → Option Value} {p st : Nat} {u k f : Int} (h : Pl w0 w g s C p st u k f) (hp : p ≤ s.size) (hs : s.size ≤ 1048576) (hst : st ≤ p) (hc : ncB (cpOf s p) = true) (E q0 : Nat) (hE : nmE s p = E) (hq0 : p + wid s p = q0) (hI : iveB s (E + wid s E) (cpOf s E) = false) :
    Calls Tryd.prog 66 #[.pointer (some ⟨g, 0, none⟩)] w fun e w' => e = .returned (.string (s.extract st E)) ∧ Go2 w0 w w' g s C E st u k f := by
  have hlt : p < s.size := by
    by_cases hq : p < s.size
    · exact hq
    · obtain rfl : p = s.size := by omega
      rw [nc_end] at hc; cases hc
  have hw1 := wid_pos s p hlt
  have hw2 := wid_le s p hp
  have hrun : nmE s q0 = E := by rw [← hq0, ← hE, nmE_cp s p hp, if_pos hc]
  have hq2 : q0 ≤ E := by rw [← hrun]; exact (nmE_ge s q0 (by omega)).1
  have hE2 : E ≤ s.size := by rw [← hrun]; exact (nmE_ge s q0 (by omega)).2
  have HIN := Lib.hid (show ∀ j, q0 ≤ j → j < E → ncB (byt s j : Nat) = true from fun j a b => run_inn (fun b => ncB (b : Int)) s q0 (by omega) j a (by unfold nmE at hrun; omega))
  have HOUT := Lib.hid (show E < s.size → ncB (byt s E : Nat) = false from fun hl => by
    have := run_out (fun b => ncB (b : Int)) s q0 (by omega) (by unfold nmE at hrun; omega)
    unfold nmE at hrun; rw [hrun] at this; exact this)
  have HJ := Lib.hid (step_jump h E (by omega) hE2 hs hst (fun j a b => by
    by_cases hj : j < q0
    · have := wid_in s p hlt j a (by omega); omega
    · exact nc_no10 _ (HIN.out j (by omega) b)))
  obtain ⟨R, hR⟩ : ∃ R, s.extract st E = R := ⟨_, rfl⟩
  rw [hR]
  have hsum : (st : Int) + ((E : Int) - (st : Int)) = (E : Int) := by omega
  have HN := Lib.hid (en58 st ((E : Int) - st) (by omega) (by omega) (by omega))
  rw [hsum] at HN
  have HP := Lib.hid h
  obtain ⟨l, c10, c32, c33, c35, c36, c37, fz⟩ := id h.at_
  rw [hq0] at c33
  have hstE : st ≤ E := by omega
  have hl33 : w.cell? ⟨g, 33, none⟩ = some (.int .i64 (q0 : Nat)) := c33
  have HC := Lib.hid hc; have HI := Lib.hid hI
  clear h hc hI hE hrun hsum hq0 hw1 hw2 hst
  go_enter Tryd.func66, Tryd.ntmps66
  go_wp2_with fail
  refine (nc76 _ _).mono ?_
  rintro e w2 ⟨rfl, rfl⟩
  rw [HC.out]
  dsimp only
  go_wp2_with fail
  go_loopw [5] (fun a w' => ∃ i : Nat, a = .int .i64 i ∧ w = w' ∧ q0 ≤ i ∧ i ≤ E) (fun a w' => s.size - (intOf a).toNat)
  case atStart => exact ⟨q0, rfl, rfl, Nat.le_refl _, hq2⟩
  case round =>
    obtain ⟨i, rfl, rfl, hi, hiE⟩ := hrel
    by_cases hlE : i < E
    · have his : i < s.size := by omega
      obtain ⟨b, hb⟩ : ∃ b, (s[i]'his).toNat = b := ⟨_, rfl⟩
      have hb' : ((s[i]'his).toNat : Int) = (b : Int) := by omega
      have hb2 : b < 256 := by rw [← hb]; exact UInt8.toNat_lt _
      have HX := Lib.hid (show ncB (b : Int) = true by rw [← hb, byt_at]; exact HIN.out i hi hlE)
      clear hb
      go_wp2_with fail
      refine (nc76 _ _).mono ?_
      rintro e w2 ⟨rfl, rfl⟩
      rw [HX.out]
      dsimp only
      go_wp2_with fail
      go_roundw
      case rel => exact ⟨i + 1, by simp, by trivial, by omega, by omega⟩
      case measure => simp only [intOf]; omega
    · obtain rfl : i = E := by omega
      have HAFT := Lib.hid (show Calls Tryd.prog 54 #[.pointer (some ⟨g, 0, none⟩)] (w.setCell ⟨g, 33, none⟩ (.int .i64 i)) fun e w' => e = .returned (.tuple #[]) ∧ Go2 w0 w w' g s C i st u k f from HJ.out)
      clear hlE hiE
      by_cases his : i < s.size
      · obtain ⟨b, hb⟩ : ∃ b, (s[i]'his).toNat = b := ⟨_, rfl⟩
        have hb' : ((s[i]'his).toNat : Int) = (b : Int) := by omega
        have hb2 : b < 256 := by rw [← hb]; exact UInt8.toNat_lt _
        have HX := Lib.hid (show ncB (b : Int) = false by rw [← hb, byt_at]; exact HOUT.out his)
        clear hb
        go_wp2_with fail
        refine (nc76 _ _).mono ?_
        rintro e w2 ⟨rfl, rfl⟩
        rw [HX.out]
        dsimp only
        go_wp2_with fail
        refine (HAFT.out).mono ?_
        rintro e w3 ⟨rfl, hg⟩
        have HG := Lib.hid hg
        obtain ⟨l', d10, d32, d33, d35, d36, d37, fz'⟩ := id hg.1.at_
        clear hg l c10 c32 c33 c35 c36 c37 fz
        dsimp only
        go_wp2_with fail
        go_region_with ((go_at_call 58; refine (HN.out _).mono ?_; rintro e w4 ⟨rfl, be⟩; have KB := Lib.hid ((Below.refl w3.heap.size w3).drew.trans be); have HG4 := Lib.hid (HG.out.keep KB.out); obtain ⟨l2, f10, f32, f33, f35, f36, f37, fz2⟩ := id HG4.out.1.at_; clear be))
        all_goals
          go_wp2_with fail
          refine (ive_any _ g s _ (i + wid s i) (cpOf s i) _ _ HG4.out.1.at_ HG4.out.1.tabs (wid_le s i hE2) hs).mono ?_
          rintro e w5 ⟨rfl, hb5⟩
          rw [HI.out]
          have HG5 := Lib.hid (HG4.out.keep hb5)
          clear hb5
          dsimp only
          go_wp2_with fail
          go_ret
          exact ⟨rfl, HG5.out⟩
      · clear HOUT
        go_wp2_with fail
        refine (HAFT.out).mono ?_
        rintro e w3 ⟨rfl, hg⟩
        have HG := Lib.hid hg
        obtain ⟨l', d10, d32, d33, d35, d36, d37, fz'⟩ := id hg.1.at_
        clear hg l c10 c32 c33 c35 c36 c37 fz
        dsimp only
        go_wp2_with fail
        go_region_with ((go_at_call 58; refine (HN.out _).mono ?_; rintro e w4 ⟨rfl, be⟩; have KB := Lib.hid ((Below.refl w3.heap.size w3).drew.trans be); have HG4 := Lib.hid (HG.out.keep KB.out); obtain ⟨l2, f10, f32, f33, f35, f36, f37, fz2⟩ := id HG4.out.1.at_; clear be))
        all_goals
          go_wp2_with fail
          refine (ive_any _ g s _ (i + wid s i) (cpOf s i) _ _ HG4.out.1.at_ HG4.out.1.tabs (wid_le s i hE2) hs).mono ?_
          rintro e w5 ⟨rfl, hb5⟩
          rw [HI.out]
          have HG5 := Lib.hid (HG4.out.keep hb5)
          clear hb5
          dsimp only
          go_wp2_with fail
          go_ret
          exact ⟨rfl, HG5.out⟩
set_option maxRecDepth 100000 in
set_option maxHeartbeats 4000000 in
theorem cn66b {w0 w : World} {g : Nat} {s : ByteArray} {C : Nat → Option Value} {p st : Nat} {u k f : Int} (h : Pl w0 w g s C p st u k f) (hp : p ≤ s.size) (hs : s.size ≤ 1048576) (hst : st ≤ p) (hc : ncB (cpOf s p) = false) (hI : iveB s (p + wid s p) (cpOf s p) = false) :
    Calls Tryd.prog 66 #[.pointer (some ⟨g, 0, none⟩)] w fun e w' => e = .returned (.string (s.extract st p)) ∧ Go2 w0 w w' g s C p st u k f := by
  obtain ⟨R, hR⟩ : ∃ R, s.extract st p = R := ⟨_, rfl⟩
  rw [hR]
  have hsum : (st : Int) + ((p : Int) - (st : Int)) = (p : Int) := by omega
  have HN := Lib.hid (en58 st ((p : Int) - st) (by omega) (by omega) (by omega))
  rw [hsum] at HN
  have HG := Lib.hid h.go
  obtain ⟨l, c10, c32, c33, c35, c36, c37, fz⟩ := id h.at_
  have HC := Lib.hid hc; have HI := Lib.hid hI
  clear h hc hI hsum
  go_enter Tryd.func66, Tryd.ntmps66
  go_wp2_with fail
  refine (nc76 _ _).mono ?_
  rintro e w2 ⟨rfl, rfl⟩
  rw [HC.out]
  dsimp only
  go_wp2_with fail
  go_region_with ((go_at_call 58; refine (HN.out _).mono ?_; rintro e w4 ⟨rfl, be⟩; have KB := Lib.hid ((Below.refl w.heap.size w).drew.trans be); have HG4 := Lib.hid (HG.out.keep KB.out); obtain ⟨l2, f10, f32, f33, f35, f36, f37, fz2⟩ := id HG4.out.1.at_; clear be))
  all_goals
    go_wp2_with fail
    refine (ive_any _ g s _ (p + wid s p) (cpOf s p) _ _ HG4.out.1.at_ HG4.out.1.tabs (wid_le s p hp) hs).mono ?_
    rintro e w5 ⟨rfl, hb5⟩
    rw [HI.out]
    have HG5 := Lib.hid (HG4.out.keep hb5)
    clear hb5
    dsimp only
    go_wp2_with fail
    go_ret
    exact ⟨rfl, HG5.out⟩
/-- consumeName without an escape -/
theorem cn66 {w0 w : World} {g : Nat} {s : ByteArray} {C : Nat → Option Value} {p st : Nat} {u k f : Int} (h : Pl w0 w g s C p st u k f) (hp : p ≤ s.size) (hs : s.size ≤ 1048576) (hst : st ≤ p) (hI : iveB s (nmE s p + wid s (nmE s p)) (cpOf s (nmE s p)) = false) :
    Calls Tryd.prog 66 #[.pointer (some ⟨g, 0, none⟩)] w fun e w' => e = .returned (.string (s.extract st (nmE s p))) ∧ Go2 w0 w w' g s C (nmE s p) st u k f := by
  by_cases hc : ncB (cpOf s p) = true
  · exact cn66a h hp hs hst hc _ _ rfl rfl hI
  · have e : nmE s p = p := by rw [nmE_cp s p hp, if_neg hc]
    rw [e] at hI ⊢
    exact cn66b h hp hs hst (by simpa using hc) hI
end Go.Proofs.YtocciemgdikmjaaDoor
