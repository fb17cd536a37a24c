/-
  consumeIdentLike where no escape and no url( stands.
-/
import Derived.Test.YtocciemgdikmjaaDoorD2
import Derived.RegionTactic
namespace Go.Proofs.YtocciemgdikmjaaDoor
open Go.ChangeShapes Go.WideShapes Go.ChangeAt Go.RowKit
open Go.Lib (decodeN decode_at decodeGo)
set_option linter.unusedVariables false
theorem is_cp' (s : ByteArray) (q : Nat) (hq : q ≤ s.size) (c : Nat) (hc : c < 128) (h0 : c ≠ 0) : cpOf s q = (c : Int) ↔ byt s q = c := by
  constructor
  · intro e; exact (cp_is s q hq c hc e).2
  · intro e
    have hl := byt_lt_size s q (by omega)
    rw [cp_asc s q hl (by omega), e]
theorem byt_ext (s : ByteArray) (p E i : Nat) (h : p + i < E) (hE : E ≤ s.size) : byt (s.extract p E) i = byt s (p + i) := by
  have h1 : i < (s.extract p E).size := by simp; omega
  rw [← byt_at _ i h1, ← byt_at s (p + i) (by omega), ByteArray.getElem_extract]
theorem fls (b : Nat) (k : Int) (h : (b : Int) ≠ k) : ((b : Int) == k) = false := by rw [beq_eq_false_iff_ne]; exact h
set_option maxRecDepth 100000 in
set_option maxHeartbeats 8000000 in
theorem cil55 {w0 w : World} {g : Nat} {s : ByteArray} {C : Nat → Option Value} {p : Nat} {u k f : Int} (h : Pl w0 w g s C p p u k f) (hp : p ≤ s.size) (hs : s.size ≤ 1048576) (hD : Dom s) (hU : NoUrl s) :
    Calls Tryd.prog 55 #[.pointer (some ⟨g, 0, none⟩)] w fun e w' => e = .returned (.int .u8 (idT s p).k) ∧ Go2 w0 w w' g s C (idT s p).e p u k f := by
  obtain ⟨E, hE⟩ : ∃ E, nmE s p = E := ⟨_, rfl⟩
  have hg := nmE_ge s p hp
  rw [hE] at hg
  obtain ⟨hpE, hEs⟩ := hg
  have HCN := Lib.hid (cn66 h hp hs (Nat.le_refl p) (ive_no hD _ _ (nmE_ge s p hp).2))
  obtain ⟨R, hR⟩ : ∃ R, s.extract p E = R := ⟨_, rfl⟩
  rw [hE, hR] at HCN
  obtain ⟨T, hT⟩ : ∃ T, idT s p = T := ⟨_, rfl⟩
  rw [hT]
  have HID := Lib.hid (show T = if byt s E = 40 then ⟨27, E + 1, 0, 0⟩ else ⟨29, E, 0, 0⟩ by rw [← hT]; unfold idT; rw [hE])
  have hRs : R.size = E - p := by rw [← hR]; simp; omega
  have HRQ := Lib.hid hR; have HRS := Lib.hid hRs
  have HUU := Lib.hid hU
  have hsum : (p : Int) + ((E : Int) - (p : Int)) = (E : Int) := by omega
  have HN := Lib.hid (en58 p ((E : Int) - p) (by omega) (by omega) (by omega))
  rw [hsum] at HN
  clear hE hR h hsum hU hD hT hRs
  obtain ⟨c, hc⟩ : ∃ c, cpOf s E = c := ⟨_, rfl⟩
  have HC := Lib.hid hc
  go_enter Tryd.func55, Tryd.ntmps55
  go_wp2_with fail
  refine (HCN.out).mono ?_
  rintro e w1 ⟨rfl, hg⟩
  have HG1 := Lib.hid hg
  obtain ⟨l, c10, c32, c33, c35, c36, c37, fz⟩ := id (HG1.out.1.at_)
  rw [hc] at c35
  clear hg hc HCN
  dsimp only
  by_cases h40 : c = 40
  case neg =>
    have hb : ¬ byt s E = 40 := fun hh => h40 (by rw [← HC.out]; exact (is_cp' s E hEs 40 (by omega) (by omega)).2 hh)
    have HID2 := Lib.hid (show T = ⟨29, E, 0, 0⟩ by rw [HID.out, if_neg hb])
    have e1 : (c == 40) = false := by rw [beq_eq_false_iff_ne]; exact h40
    clear h40 hb
    go_wp2_with fail
    go_ret
    rw [HID2.out]
    exact ⟨rfl, HG1.out⟩
  have hb := (is_cp' s E hEs 40 (by omega) (by omega)).1 (by rw [HC.out]; exact h40)
  have HBB := Lib.hid hb
  have HEL := Lib.hid (byt_lt_size s E (by omega))
  have HID2 := Lib.hid (show T = ⟨27, E + 1, 0, 0⟩ by rw [HID.out, if_pos hb])
  subst h40
  clear hb HID
  go_wp2_with fail
  refine (HN.out _).mono ?_
  rintro e w2 ⟨rfl, be⟩
  have HG2 := Lib.hid (HG1.out.keep be)
  clear be l c10 c32 c33 c35 c36 c37 fz
  obtain ⟨l, c10, c32, c33, c35, c36, c37, fz⟩ := id (HG2.out.1.at_)
  dsimp only
  go_wp2_with fail
  have HG3 := Lib.hid (HG2.out.keep ((Below.refl w2.heap.size w2).alloc (Nat.le_refl _) (Obj.cells #[Value.int IntKind.i32 (E : Int)] 28)))
  refine (step_pla HG3.out.1 HEL.out (by have := HBB.out; omega) hs hpE).mono ?_
  rintro e w3 ⟨rfl, hg⟩
  have HG4 := Lib.hid (HG3.out.trans hg)
  clear hg l c10 c32 c33 c35 c36 c37 fz
  dsimp only
  by_cases h3 : R.size = 3
  case neg =>
    have e3 : ((R.size : Int) == 3) = false := fls _ _ (by omega)
    clear h3
    go_wp2_with fail
    go_ret
    rw [HID2.out]
    exact ⟨rfl, HG4.out⟩
  have hE3 : E = p + 3 := by have := HRS.out; omega
  have i0 : 0 < R.size := by omega
  have i1 : 1 < R.size := by omega
  have i2 : 2 < R.size := by omega
  obtain ⟨b0, hb0⟩ : ∃ b, (R[0]'i0).toNat = b := ⟨_, rfl⟩
  obtain ⟨b1, hb1⟩ : ∃ b, (R[1]'i1).toNat = b := ⟨_, rfl⟩
  obtain ⟨b2, hb2⟩ : ∃ b, (R[2]'i2).toNat = b := ⟨_, rfl⟩
  have hnu : ¬ ((b0 = 117 ∨ b0 = 85) ∧ (b1 = 114 ∨ b1 = 82) ∧ (b2 = 108 ∨ b2 = 76)) := by
    rintro ⟨x1, x2, x3⟩
    have y0 : byt s p = b0 := by rw [← hb0, byt_at, ← HRQ.out, byt_ext s p E 0 (by omega) hEs]; rfl
    have y1 : byt s (p + 1) = b1 := by rw [← hb1, byt_at, ← HRQ.out, byt_ext s p E 1 (by omega) hEs]
    have y2 : byt s (p + 2) = b2 := by rw [← hb2, byt_at, ← HRQ.out, byt_ext s p E 2 (by omega) hEs]
    have y3 : byt s (p + 3) = 40 := by rw [← hE3]; exact HBB.out
    exact HUU.out p (by rw [← hE3]; exact HEL.out) ⟨by omega, by omega, by omega, y3⟩
  have g0 : ((R[0]'i0).toNat : Int) = (b0 : Int) := by omega
  have g1 : ((R[1]'i1).toNat : Int) = (b1 : Int) := by omega
  have g2 : ((R[2]'i2).toNat : Int) = (b2 : Int) := by omega
  have HNU := Lib.hid hnu
  have h3' : (R.size : Int) = 3 := by omega
  have e3 : ((R.size : Int) == 3) = true := by rw [h3']; rfl
  clear hnu hb0 hb1 hb2 hE3 h3 h3'
  go_wp2_with fail
  go_region
  all_goals
    go_upto_region 7 with fail
    go_cut [58] (fun v wx => v = .bool false ∧ Hid (Go2 w0 w wx g s C (E + 1) p u k f))
    case first =>
      have HG5 := Lib.hid HG4.out.drew
      by_cases u1 : b0 = 117 ∨ b0 = 85
      case neg =>
        have d1 : ((b0 : Int) == 117) = false := fls _ _ (by omega)
        have d2 : ((b0 : Int) == 85) = false := fls _ _ (by omega)
        clear u1
        go_wp2_with fail
        go_meet
        exact ⟨rfl, HG5⟩
      by_cases r1 : b1 = 114 ∨ b1 = 82
      case neg =>
        have d1 : ((b1 : Int) == 114) = false := fls _ _ (by omega)
        have d2 : ((b1 : Int) == 82) = false := fls _ _ (by omega)
        clear r1
        rcases u1 with rfl | rfl
        all_goals
          go_wp2_with fail
          go_meet
          exact ⟨rfl, HG5⟩
      have l1 : ¬ (b2 = 108 ∨ b2 = 76) := fun hh => HNU.out ⟨u1, r1, hh⟩
      have d1 : ((b2 : Int) == 108) = false := fls _ _ (by omega)
      have d2 : ((b2 : Int) == 76) = false := fls _ _ (by omega)
      clear l1 HNU
      rcases u1 with rfl | rfl <;> rcases r1 with rfl | rfl
      all_goals
        go_wp2_with fail
        go_meet
        exact ⟨rfl, HG5⟩
    case rest =>
      obtain ⟨rfl, HG5⟩ := hcut
      go_wp2_with fail
      go_ret
      rw [HID2.out]
      exact ⟨rfl, HG5.out⟩
end Go.Proofs.YtocciemgdikmjaaDoor
