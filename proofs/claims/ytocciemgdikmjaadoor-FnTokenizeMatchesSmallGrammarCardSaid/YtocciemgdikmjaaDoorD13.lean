/-
  next, a class of code points at a time.
-/
import Derived.Test.YtocciemgdikmjaaDoorD12
namespace Go.Proofs.YtocciemgdikmjaaDoor
open Go.ChangeShapes Go.WideShapes Go.ChangeAt Go.RowKit
open Go.Lib (decodeN decode_at decodeGo)
set_option linter.unusedVariables false
set_option maxRecDepth 100000 in
set_option maxHeartbeats 8000000 in
theorem nx_eof {w0 w : World} {g : Nat} {s : ByteArray} {C : Nat → Option Value} {p st : Nat} {u k f : Int} (h : Pl w0 w g s C p st u k f) (hp : p ≤ s.size) (hs : s.size ≤ 1048576) (hst : st ≤ p) (hc : p = s.size) :
    Calls Tryd.prog 63 #[.pointer (some ⟨g, 0, none⟩)] w fun e w' => e = .returned (.tuple #[]) ∧ Go2 w0 w w' g s C p p 0 0 0 := by
  obtain ⟨c, hcp⟩ : ∃ c, cpOf s p = c := ⟨_, rfl⟩
  have d1 : (c == -1) = true := by rw [beq_iff_eq, ← hcp, hc]; exact cp_end s
  clear hc
  have hsum : (st : Int) + ((p : Int) - (st : Int)) = (p : Int) := by omega
  have HN := Lib.hid (en58 st ((p : Int) - st) (by omega) (by omega) (by omega))
  rw [hsum] at HN
  have H0 := Lib.hid h.go
  obtain ⟨l, c10, c32, c33, c35, c36, c37, fz⟩ := id h.at_
  have c38 := h.c38
  have c39 := h.c39
  have c40 := h.c40
  clear hsum h
  go_enter Tryd.func63, Tryd.ntmps63
  go_wp2_with fail
  refine wp_loop_rounds 1 ?_
  rw [rounds_succ]
  go_upto_block 2 with (go_at_call 58; refine (HN.out _).mono ?_; rintro e w1 ⟨rfl, be⟩; have HG1 := Lib.hid (H0.out.keep be); obtain ⟨l', d10, d32, d33, d35, d36, d37, fz'⟩ := id HG1.out.1.at_; have d38 := HG1.out.1.c38; have d39 := HG1.out.1.c39; have d40 := HG1.out.1.c40; clear be)
  have HG := Lib.hid (rst_go HG1.out)
  clear l c10 c32 c33 c35 c36 c37 fz c38 c39 c40 l' d10 d32 d33 d35 d36 d37 fz' d38 d39 d40 HG1
  unfold rst at HG
  obtain ⟨W, hW⟩ : ∃ W, ((((w1.setCell ⟨g, 36, none⟩ (.int .i32 p)).setCell ⟨g, 37, none⟩ (.int .i32 0)).setCell ⟨g, 38, none⟩ (.int .u16 0)).setCell ⟨g, 39, none⟩ (.int .u8 0)).setCell ⟨g, 40, none⟩ (.int .u8 0) = W := ⟨_, rfl⟩
  rw [hW] at HG ⊢
  clear hW
  obtain ⟨l, c10, c32, c33, c35, c36, c37, fz⟩ := id (HG.out.1.at_)
  have c38 := HG.out.1.c38
  have c39 := HG.out.1.c39
  have c40 := HG.out.1.c40
  rw [hcp] at c35
  clear hcp
  go_wp2_with fail
  refine bodyPost_ret (results_none rfl _ _ _) rfl ?_
  exact ⟨rfl, HG.out.set39 0⟩
set_option maxRecDepth 100000 in
set_option maxHeartbeats 8000000 in
theorem nx_60w {w0 w : World} {g : Nat} {s : ByteArray} {C : Nat → Option Value} {p st : Nat} {u k f : Int} (h : Pl w0 w g s C p st u k f) (hp : p ≤ s.size) (hs : s.size ≤ 1048576) (hst : st ≤ p) (hD : Dom s) (hc : cpOf s p = 60) (hw2 : byt s (p + 1) = 33 ∧ byt s (p + 2) = 45 ∧ byt s (p + 3) = 45) :
    Calls Tryd.prog 63 #[.pointer (some ⟨g, 0, none⟩)] w fun e w' => e = .returned (.tuple #[]) ∧ Go2 w0 w w' g s C (p + 4) p 0 5 0 := by
  have HC := Lib.hid hc
  obtain ⟨hl, hb⟩ := cp_is s p hp 60 (by omega) hc
  have hw : wid s p = 1 := wid_asc s p hl (by omega)
  have HBP := Lib.hid hb
  have HD := Lib.hid hD
  have HW := Lib.hid hw2
  have h3 : p + 4 ≤ s.size := by
    have := byt_lt_size s (p + 3) (by omega)
    omega
  have H3 := Lib.hid h3
  clear hw2 hD h3
  have hsum : (st : Int) + ((p : Int) - (st : Int)) = (p : Int) := by omega
  have HN := Lib.hid (en58 st ((p : Int) - st) (by omega) (by omega) (by omega))
  rw [hsum] at HN
  have H0 := Lib.hid h.go
  obtain ⟨l, c10, c32, c33, c35, c36, c37, fz⟩ := id h.at_
  have c38 := h.c38
  have c39 := h.c39
  have c40 := h.c40
  clear hsum h
  go_enter Tryd.func63, Tryd.ntmps63
  go_wp2_with fail
  refine wp_loop_rounds 1 ?_
  rw [rounds_succ]
  go_upto_block 2 with (go_at_call 58; refine (HN.out _).mono ?_; rintro e w1 ⟨rfl, be⟩; have HG1 := Lib.hid (H0.out.keep be); obtain ⟨l', d10, d32, d33, d35, d36, d37, fz'⟩ := id HG1.out.1.at_; have d38 := HG1.out.1.c38; have d39 := HG1.out.1.c39; have d40 := HG1.out.1.c40; clear be)
  have HG := Lib.hid (rst_go HG1.out)
  clear l c10 c32 c33 c35 c36 c37 fz c38 c39 c40 l' d10 d32 d33 d35 d36 d37 fz' d38 d39 d40 HG1
  unfold rst at HG
  obtain ⟨W, hW⟩ : ∃ W, ((((w1.setCell ⟨g, 36, none⟩ (.int .i32 p)).setCell ⟨g, 37, none⟩ (.int .i32 0)).setCell ⟨g, 38, none⟩ (.int .u16 0)).setCell ⟨g, 39, none⟩ (.int .u8 0)).setCell ⟨g, 40, none⟩ (.int .u8 0) = W := ⟨_, rfl⟩
  rw [hW] at HG ⊢
  clear hW
  obtain ⟨l, c10, c32, c33, c35, c36, c37, fz⟩ := id (HG.out.1.at_)
  have c38 := HG.out.1.c38
  have c39 := HG.out.1.c39
  have c40 := HG.out.1.c40
  rw [hc] at c35
  have hat := HG.out.1.at_
  unfold At at hat
  rw [hc] at hat
  have HAT := Lib.hid hat
  clear hc hat
  obtain ⟨Q1, hQ1⟩ : ∃ q, p + 1 = q := ⟨_, rfl⟩
  obtain ⟨Q3, hQ3⟩ : ∃ q, Q1 + 3 = q := ⟨_, rfl⟩
  have hQ3' : (Q1 : Int) + 3 = (Q3 : Int) := by omega
  have hQ13 : Q1 ≤ Q3 := by omega
  rw [hw, hQ1] at c33
  have HQ := Lib.hid (And.intro hQ1 hQ3)
  clear hQ1 hQ3 hw hb
  have hle : Q3 ≤ s.size := by have := H3.out; have := HQ.out; omega
  have hX : s.extract Q1 Q3 = ⟨#[33, 45, 45]⟩ := by
    rw [ext_lit3 s Q1 Q3 33 45 45 HQ.out.2.symm hle]
    have h1 := HW.out
    rw [← HQ.out.1]
    exact ⟨h1.1, h1.2.1, h1.2.2⟩
  go_wp2_with fail
  go_region
  all_goals
    have HG1 := Lib.hid HG.out.drew
    go_wp2_with fail
    refine (step_pla HG1.out.1 (by have := H3.out; omega) (by have := HBP.out; omega) hs (by omega)).mono ?_
    rintro e w2 ⟨rfl, hg⟩
    have HG2 := Lib.hid (show Go2 w0 w w2 g s C (p + 1) p 0 0 0 from HG1.out.trans hg)
    clear hg
    dsimp only
    go_wp2_with fail
    refine (step_pla HG2.out.1 (by have := H3.out; omega) (by have := HW.out; omega) hs (by omega)).mono ?_
    rintro e w2 ⟨rfl, hg⟩
    have HG3 := Lib.hid (show Go2 w0 w w2 g s C (p + 2) p 0 0 0 from HG2.out.trans hg)
    clear hg
    dsimp only
    go_wp2_with fail
    refine (step_pla HG3.out.1 (by have := H3.out; omega) (by have := HW.out; omega) hs (by omega)).mono ?_
    rintro e w2 ⟨rfl, hg⟩
    have HG4 := Lib.hid (show Go2 w0 w w2 g s C (p + 3) p 0 0 0 from HG3.out.trans hg)
    clear hg
    dsimp only
    go_wp2_with fail
    refine (step_pla HG4.out.1 (by have := H3.out; omega) (by have := HW.out; omega) hs (by omega)).mono ?_
    rintro e w2 ⟨rfl, hg⟩
    have HG5 := Lib.hid (show Go2 w0 w w2 g s C (p + 4) p 0 0 0 from HG4.out.trans hg)
    clear hg
    dsimp only
    clear l c10 c32 c33 c35 c36 c37 fz c38 c39 c40
    obtain ⟨l, c10, c32, c33, c35, c36, c37, fz⟩ := id (HG5.out.1.at_)
    have c38 := HG5.out.1.c38
    have c39 := HG5.out.1.c39
    have c40 := HG5.out.1.c40
    go_wp2_with fail
    refine bodyPost_ret (results_none rfl _ _ _) rfl ?_
    exact ⟨rfl, HG5.out.set39 5⟩
set_option maxRecDepth 100000 in
set_option maxHeartbeats 8000000 in
theorem nx_60d {w0 w : World} {g : Nat} {s : ByteArray} {C : Nat → Option Value} {p st : Nat} {u k f : Int} (h : Pl w0 w g s C p st u k f) (hp : p ≤ s.size) (hs : s.size ≤ 1048576) (hst : st ≤ p) (hD : Dom s) (hc : cpOf s p = 60) (hw2 : ¬ (byt s (p + 1) = 33 ∧ byt s (p + 2) = 45 ∧ byt s (p + 3) = 45)) :
    Calls Tryd.prog 63 #[.pointer (some ⟨g, 0, none⟩)] w fun e w' => e = .returned (.tuple #[]) ∧ Go2 w0 w w' g s C (p + 1) p 0 21 0 := by
  have HC := Lib.hid hc
  obtain ⟨hl, hb⟩ := cp_is s p hp 60 (by omega) hc
  have hw : wid s p = 1 := wid_asc s p hl (by omega)
  have HBP := Lib.hid hb
  have HD := Lib.hid hD
  have HW := Lib.hid hw2
  clear hw2 hD
  have hsum : (st : Int) + ((p : Int) - (st : Int)) = (p : Int) := by omega
  have HN := Lib.hid (en58 st ((p : Int) - st) (by omega) (by omega) (by omega))
  rw [hsum] at HN
  have H0 := Lib.hid h.go
  obtain ⟨l, c10, c32, c33, c35, c36, c37, fz⟩ := id h.at_
  have c38 := h.c38
  have c39 := h.c39
  have c40 := h.c40
  clear hsum h
  go_enter Tryd.func63, Tryd.ntmps63
  go_wp2_with fail
  refine wp_loop_rounds 1 ?_
  rw [rounds_succ]
  go_upto_block 2 with (go_at_call 58; refine (HN.out _).mono ?_; rintro e w1 ⟨rfl, be⟩; have HG1 := Lib.hid (H0.out.keep be); obtain ⟨l', d10, d32, d33, d35, d36, d37, fz'⟩ := id HG1.out.1.at_; have d38 := HG1.out.1.c38; have d39 := HG1.out.1.c39; have d40 := HG1.out.1.c40; clear be)
  have HG := Lib.hid (rst_go HG1.out)
  clear l c10 c32 c33 c35 c36 c37 fz c38 c39 c40 l' d10 d32 d33 d35 d36 d37 fz' d38 d39 d40 HG1
  unfold rst at HG
  obtain ⟨W, hW⟩ : ∃ W, ((((w1.setCell ⟨g, 36, none⟩ (.int .i32 p)).setCell ⟨g, 37, none⟩ (.int .i32 0)).setCell ⟨g, 38, none⟩ (.int .u16 0)).setCell ⟨g, 39, none⟩ (.int .u8 0)).setCell ⟨g, 40, none⟩ (.int .u8 0) = W := ⟨_, rfl⟩
  rw [hW] at HG ⊢
  clear hW
  obtain ⟨l, c10, c32, c33, c35, c36, c37, fz⟩ := id (HG.out.1.at_)
  have c38 := HG.out.1.c38
  have c39 := HG.out.1.c39
  have c40 := HG.out.1.c40
  rw [hc] at c35
  have hat := HG.out.1.at_
  unfold At at hat
  rw [hc] at hat
  have HAT := Lib.hid hat
  clear hc hat
  obtain ⟨Q1, hQ1⟩ : ∃ q, p + 1 = q := ⟨_, rfl⟩
  obtain ⟨Q3, hQ3⟩ : ∃ q, Q1 + 3 = q := ⟨_, rfl⟩
  have hQ3' : (Q1 : Int) + 3 = (Q3 : Int) := by omega
  have hQ13 : Q1 ≤ Q3 := by omega
  rw [hw, hQ1] at c33
  have HQ := Lib.hid (And.intro hQ1 hQ3)
  clear hQ1 hQ3 hw hb
  by_cases hle : Q3 ≤ s.size
  · obtain ⟨X, hX⟩ : ∃ X, s.extract Q1 Q3 = X := ⟨_, rfl⟩
    have hXn : X ≠ ⟨#[33, 45, 45]⟩ := by
      rw [← hX]
      intro hh
      rw [ext_lit3 s Q1 Q3 33 45 45 HQ.out.2.symm hle, ← HQ.out.1] at hh
      exact HW.out ⟨hh.1, hh.2.1, hh.2.2⟩
    have hX1 : (X.toList == [33, 45, 45]) = false := by
      rw [beq_eq_false_iff_ne, Go.ByteArray.toList_eq]
      intro hh
      exact hXn (bytes_inj (b := ⟨#[33, 45, 45]⟩) hh)
    have HXN := Lib.hid hXn
    clear hXn
    go_wp2_with fail
    go_region
    all_goals
      have HG1 := Lib.hid HG.out.drew
      have HAT1 := Lib.hid HAT.out.drew
      go_wp2_with fail
      refine (step_pla HG1.out.1 hl (by have := HBP.out; omega) hs (Nat.le_refl p)).mono ?_
      rintro e w2 ⟨rfl, hg⟩
      have HG3 := Lib.hid (HG1.out.trans hg)
      clear hg l c10 c32 c33 c35 c36 c37 fz c38 c39 c40
      obtain ⟨l, c10, c32, c33, c35, c36, c37, fz⟩ := id (HG3.out.1.at_)
      have c38 := HG3.out.1.c38
      have c39 := HG3.out.1.c39
      have c40 := HG3.out.1.c40
      dsimp only
      go_wp2_with fail
      refine bodyPost_ret (results_none rfl _ _ _) rfl ?_
      exact ⟨rfl, HG3.out.set39 21⟩
  · have hQb : Q3 ≤ 1048580 := by have := HQ.out; omega
    go_wp2_with fail
    go_region
    all_goals
      have HG1 := Lib.hid HG.out.drew
      have HAT1 := Lib.hid HAT.out.drew
      go_wp2_with fail
      refine (step_pla HG1.out.1 hl (by have := HBP.out; omega) hs (Nat.le_refl p)).mono ?_
      rintro e w2 ⟨rfl, hg⟩
      have HG3 := Lib.hid (HG1.out.trans hg)
      clear hg l c10 c32 c33 c35 c36 c37 fz c38 c39 c40
      obtain ⟨l, c10, c32, c33, c35, c36, c37, fz⟩ := id (HG3.out.1.at_)
      have c38 := HG3.out.1.c38
      have c39 := HG3.out.1.c39
      have c40 := HG3.out.1.c40
      dsimp only
      go_wp2_with fail
      refine bodyPost_ret (results_none rfl _ _ _) rfl ?_
      exact ⟨rfl, HG3.out.set39 21⟩
end Go.Proofs.YtocciemgdikmjaaDoor
