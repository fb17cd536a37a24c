/-
  next, a class of code points at a time.
-/
import Derived.Test.YtocciemgdikmjaaDoorD5
namespace Go.Proofs.YtocciemgdikmjaaDoor
open Go.ChangeShapes Go.WideShapes Go.ChangeAt Go.RowKit
open Go.Lib (decodeN decode_at decodeGo)
set_option linter.unusedVariables false
theorem ext_lit2 (s : ByteArray) (q q2 : Nat) (a b : UInt8) (hq2 : q2 = q + 2) (h : q2 ≤ s.size) : s.extract q q2 = ⟨#[a, b]⟩ ↔ byt s q = a.toNat ∧ byt s (q + 1) = b.toNat := by
  subst hq2
  have e0 : byt (s.extract q (q + 2)) 0 = byt s q := byt_ext s q (q + 2) 0 (by omega) h
  have e1 := byt_ext s q (q + 2) 1 (by omega) h
  constructor
  · intro e
    rw [e] at e0 e1
    exact ⟨e0.symm, e1.symm⟩
  · rintro ⟨h0, h1⟩
    apply ByteArray.ext_getElem
    · show (s.extract q (q + 2)).size = 2
      simp; omega
    · intro i hi hi2
      have hs2 : (⟨#[a, b]⟩ : ByteArray).size = 2 := rfl
      apply UInt8.toNat_inj.1
      rw [byt_at _ i hi]
      have : i = 0 ∨ i = 1 := by omega
      rcases this with rfl | rfl
      · rw [e0, h0]; rfl
      · rw [e1, h1]; rfl
theorem ext_lit3 (s : ByteArray) (q q2 : Nat) (a b c : UInt8) (hq2 : q2 = q + 3) (h : q2 ≤ s.size) : s.extract q q2 = ⟨#[a, b, c]⟩ ↔ byt s q = a.toNat ∧ byt s (q + 1) = b.toNat ∧ byt s (q + 2) = c.toNat := by
  subst hq2
  have e0 : byt (s.extract q (q + 3)) 0 = byt s q := byt_ext s q (q + 3) 0 (by omega) h
  have e1 := byt_ext s q (q + 3) 1 (by omega) h
  have e2 := byt_ext s q (q + 3) 2 (by omega) h
  constructor
  · intro e
    rw [e] at e0 e1 e2
    exact ⟨e0.symm, e1.symm, e2.symm⟩
  · rintro ⟨h0, h1, h2⟩
    apply ByteArray.ext_getElem
    · show (s.extract q (q + 3)).size = 3
      simp; omega
    · intro i hi hi2
      have hs2 : (⟨#[a, b, c]⟩ : ByteArray).size = 3 := rfl
      apply UInt8.toNat_inj.1
      rw [byt_at _ i hi]
      have : i = 0 ∨ i = 1 ∨ i = 2 := by omega
      rcases this with rfl | rfl | rfl
      · rw [e0, h0]; rfl
      · rw [e1, h1]; rfl
      · rw [e2, h2]; rfl
set_option maxRecDepth 100000 in
set_option maxHeartbeats 8000000 in
theorem nx_45a {w0 w : World} {g : Nat} {s : ByteArray} {C : Nat → Option Value} {p st : Nat} {u k f : Int} (h : Pl w0 w g s C p st u k f) (hp : p ≤ s.size) (hs : s.size ≤ 1048576) (hst : st ≤ p) (hD : Dom s) (hc : cpOf s p = 45) (hn : wsnA s p = true) :
    Calls Tryd.prog 63 #[.pointer (some ⟨g, 0, none⟩)] w fun e w' => e = .returned (.tuple #[]) ∧ Go2 w0 w w' g s C (numT s p).e p (numT s p).u (numT s p).k 0 := by
  have HC := Lib.hid hc
  have HNN := Lib.hid (show wsnB s (p + wid s p) 45 = true by rw [← hc]; exact hn)
  have HD := Lib.hid hD
  clear hn hD
  have hsum : (st : Int) + ((p : Int) - (st : Int)) = (p : Int) := by omega
  have HN := Lib.hid (en58 st ((p : Int) - st) (by omega) (by omega) (by omega))
  rw [hsum] at HN
  have H0 := Lib.hid h.go
  obtain ⟨l, c10, c32, c33, c35, c36, c37, fz⟩ := id h.at_
  have c38 := h.c38
  have c39 := h.c39
  have c40 := h.c40
  clear hsum h
  go_enter Tryd.func63, Tryd.ntmps63
  go_wp2_with fail
  refine wp_loop_rounds 1 ?_
  rw [rounds_succ]
  go_upto_block 2 with (go_at_call 58; refine (HN.out _).mono ?_; rintro e w1 ⟨rfl, be⟩; have HG1 := Lib.hid (H0.out.keep be); obtain ⟨l', d10, d32, d33, d35, d36, d37, fz'⟩ := id HG1.out.1.at_; have d38 := HG1.out.1.c38; have d39 := HG1.out.1.c39; have d40 := HG1.out.1.c40; clear be)
  have HG := Lib.hid (rst_go HG1.out)
  clear l c10 c32 c33 c35 c36 c37 fz c38 c39 c40 l' d10 d32 d33 d35 d36 d37 fz' d38 d39 d40 HG1
  unfold rst at HG
  obtain ⟨W, hW⟩ : ∃ W, ((((w1.setCell ⟨g, 36, none⟩ (.int .i32 p)).setCell ⟨g, 37, none⟩ (.int .i32 0)).setCell ⟨g, 38, none⟩ (.int .u16 0)).setCell ⟨g, 39, none⟩ (.int .u8 0)).setCell ⟨g, 40, none⟩ (.int .u8 0) = W := ⟨_, rfl⟩
  rw [hW] at HG ⊢
  clear hW
  obtain ⟨l, c10, c32, c33, c35, c36, c37, fz⟩ := id (HG.out.1.at_)
  have c38 := HG.out.1.c38
  have c39 := HG.out.1.c39
  have c40 := HG.out.1.c40
  rw [hc] at c35
  have hat := HG.out.1.at_
  unfold At at hat
  rw [hc] at hat
  have HAT := Lib.hid hat
  clear hc hat
  go_wp2_with fail
  refine (wsn_any _ g s _ (p + wid s p) 45 _ _ HAT.out (wid_le s p hp) hs).mono ?_
  rintro e w4 ⟨rfl, rfl⟩
  rw [HNN.out]
  dsimp only
  go_wp2_with fail
  refine (cnum80' HG.out.1 hp hs HD.out).mono ?_
  rintro e w6 ⟨rfl, hg⟩
  have HG6 := Lib.hid (HG.out.trans hg)
  clear hg l c10 c32 c33 c35 c36 c37 fz c38 c39 c40
  obtain ⟨l, c10, c32, c33, c35, c36, c37, fz⟩ := id (HG6.out.1.at_)
  have c38 := HG6.out.1.c38
  have c39 := HG6.out.1.c39
  have c40 := HG6.out.1.c40
  dsimp only
  go_wp2_with fail
  refine bodyPost_ret (results_none rfl _ _ _) rfl ?_
  exact ⟨rfl, HG6.out.set39 _⟩
set_option maxRecDepth 100000 in
set_option maxHeartbeats 8000000 in
theorem nx_45w {w0 w : World} {g : Nat} {s : ByteArray} {C : Nat → Option Value} {p st : Nat} {u k f : Int} (h : Pl w0 w g s C p st u k f) (hp : p ≤ s.size) (hs : s.size ≤ 1048576) (hst : st ≤ p) (hD : Dom s) (hc : cpOf s p = 45) (hn : wsnA s p = false) (hw2 : byt s (p + 1) = 45 ∧ byt s (p + 2) = 62) :
    Calls Tryd.prog 63 #[.pointer (some ⟨g, 0, none⟩)] w fun e w' => e = .returned (.tuple #[]) ∧ Go2 w0 w w' g s C (p + 3) p 0 4 0 := by
  have HC := Lib.hid hc
  obtain ⟨hl, hb⟩ := cp_is s p hp 45 (by omega) hc
  have hw : wid s p = 1 := wid_asc s p hl (by omega)
  have HBP := Lib.hid hb
  have HD := Lib.hid hD
  have HNN := Lib.hid (show wsnB s (p + wid s p) 45 = false by rw [← hc]; exact hn)
  have HW := Lib.hid hw2
  have h3 : p + 3 ≤ s.size := by
    have := byt_lt_size s (p + 2) (by omega)
    omega
  have H3 := Lib.hid h3
  clear hw2 hD h3 hn
  have hsum : (st : Int) + ((p : Int) - (st : Int)) = (p : Int) := by omega
  have HN := Lib.hid (en58 st ((p : Int) - st) (by omega) (by omega) (by omega))
  rw [hsum] at HN
  have H0 := Lib.hid h.go
  obtain ⟨l, c10, c32, c33, c35, c36, c37, fz⟩ := id h.at_
  have c38 := h.c38
  have c39 := h.c39
  have c40 := h.c40
  clear hsum h
  go_enter Tryd.func63, Tryd.ntmps63
  go_wp2_with fail
  refine wp_loop_rounds 1 ?_
  rw [rounds_succ]
  go_upto_block 2 with (go_at_call 58; refine (HN.out _).mono ?_; rintro e w1 ⟨rfl, be⟩; have HG1 := Lib.hid (H0.out.keep be); obtain ⟨l', d10, d32, d33, d35, d36, d37, fz'⟩ := id HG1.out.1.at_; have d38 := HG1.out.1.c38; have d39 := HG1.out.1.c39; have d40 := HG1.out.1.c40; clear be)
  have HG := Lib.hid (rst_go HG1.out)
  clear l c10 c32 c33 c35 c36 c37 fz c38 c39 c40 l' d10 d32 d33 d35 d36 d37 fz' d38 d39 d40 HG1
  unfold rst at HG
  obtain ⟨W, hW⟩ : ∃ W, ((((w1.setCell ⟨g, 36, none⟩ (.int .i32 p)).setCell ⟨g, 37, none⟩ (.int .i32 0)).setCell ⟨g, 38, none⟩ (.int .u16 0)).setCell ⟨g, 39, none⟩ (.int .u8 0)).setCell ⟨g, 40, none⟩ (.int .u8 0) = W := ⟨_, rfl⟩
  rw [hW] at HG ⊢
  clear hW
  obtain ⟨l, c10, c32, c33, c35, c36, c37, fz⟩ := id (HG.out.1.at_)
  have c38 := HG.out.1.c38
  have c39 := HG.out.1.c39
  have c40 := HG.out.1.c40
  rw [hc] at c35
  have hat := HG.out.1.at_
  unfold At at hat
  rw [hc] at hat
  have HAT := Lib.hid hat
  clear hc hat
  go_wp2_with fail
  refine (wsn_any _ g s _ (p + wid s p) 45 _ _ HAT.out (wid_le s p hp) hs).mono ?_
  rintro e w4 ⟨rfl, rfl⟩
  rw [HNN.out]
  dsimp only
  obtain ⟨Q1, hQ1⟩ : ∃ q, p + 1 = q := ⟨_, rfl⟩
  obtain ⟨Q3, hQ3⟩ : ∃ q, Q1 + 2 = q := ⟨_, rfl⟩
  have hQ3' : (Q1 : Int) + 2 = (Q3 : Int) := by omega
  have hQ13 : Q1 ≤ Q3 := by omega
  rw [hw, hQ1] at c33
  have HQ := Lib.hid (And.intro hQ1 hQ3)
  clear hQ1 hQ3 hw hb
  have hle : Q3 ≤ s.size := by have := H3.out; have := HQ.out; omega
  have hX : s.extract Q1 Q3 = ⟨#[45, 62]⟩ := by
    rw [ext_lit2 s Q1 Q3 45 62 HQ.out.2.symm hle]
    have h1 := HW.out
    rw [← HQ.out.1]
    exact ⟨h1.1, h1.2⟩
  go_wp2_with fail
  go_region
  all_goals
    have HG1 := Lib.hid HG.out.drew
    go_wp2_with fail
    refine (step_pla HG1.out.1 (by have := H3.out; omega) (by have := HBP.out; omega) hs (by omega)).mono ?_
    rintro e w2 ⟨rfl, hg⟩
    have HG2 := Lib.hid (show Go2 w0 w w2 g s C (p + 1) p 0 0 0 from HG1.out.trans hg)
    clear hg
    dsimp only
    go_wp2_with fail
    refine (step_pla HG2.out.1 (by have := H3.out; omega) (by have := HW.out; omega) hs (by omega)).mono ?_
    rintro e w2 ⟨rfl, hg⟩
    have HG3 := Lib.hid (show Go2 w0 w w2 g s C (p + 2) p 0 0 0 from HG2.out.trans hg)
    clear hg
    dsimp only
    go_wp2_with fail
    refine (step_pla HG3.out.1 (by have := H3.out; omega) (by have := HW.out; omega) hs (by omega)).mono ?_
    rintro e w2 ⟨rfl, hg⟩
    have HG4 := Lib.hid (show Go2 w0 w w2 g s C (p + 3) p 0 0 0 from HG3.out.trans hg)
    clear hg
    dsimp only
    clear l c10 c32 c33 c35 c36 c37 fz c38 c39 c40
    obtain ⟨l, c10, c32, c33, c35, c36, c37, fz⟩ := id (HG4.out.1.at_)
    have c38 := HG4.out.1.c38
    have c39 := HG4.out.1.c39
    have c40 := HG4.out.1.c40
    go_wp2_with fail
    refine bodyPost_ret (results_none rfl _ _ _) rfl ?_
    exact ⟨rfl, HG4.out.set39 4⟩
set_option maxRecDepth 100000 in
set_option maxHeartbeats 8000000 in
theorem nx_45i {w0 w : World} {g : Nat} {s : ByteArray} {C : Nat → Option Value} {p st : Nat} {u k f : Int} (h : Pl w0 w g s C p st u k f) (hp : p ≤ s.size) (hs : s.size ≤ 1048576) (hst : st ≤ p) (hD : Dom s) (hc : cpOf s p = 45) (hn : wsnA s p = false) (hw2 : ¬ (byt s (p + 1) = 45 ∧ byt s (p + 2) = 62)) (hU : NoUrl s) (hl2 : wslA s p = true) :
    Calls Tryd.prog 63 #[.pointer (some ⟨g, 0, none⟩)] w fun e w' => e = .returned (.tuple #[]) ∧ Go2 w0 w w' g s C (idT s p).e p 0 (idT s p).k 0 := by
  have HC := Lib.hid hc
  obtain ⟨hl, hb⟩ := cp_is s p hp 45 (by omega) hc
  have hw : wid s p = 1 := wid_asc s p hl (by omega)
  have HBP := Lib.hid hb
  have HD := Lib.hid hD
  have HNN := Lib.hid (show wsnB s (p + wid s p) 45 = false by rw [← hc]; exact hn)
  have HW := Lib.hid hw2
  have HU := Lib.hid hU
  have HL := Lib.hid (show wslB s (p + wid s p) 45 = true by rw [← hc]; exact hl2)
  clear hw2 hD hn hU hl2
  have hsum : (st : Int) + ((p : Int) - (st : Int)) = (p : Int) := by omega
  have HN := Lib.hid (en58 st ((p : Int) - st) (by omega) (by omega) (by omega))
  rw [hsum] at HN
  have H0 := Lib.hid h.go
  obtain ⟨l, c10, c32, c33, c35, c36, c37, fz⟩ := id h.at_
  have c38 := h.c38
  have c39 := h.c39
  have c40 := h.c40
  clear hsum h
  go_enter Tryd.func63, Tryd.ntmps63
  go_wp2_with fail
  refine wp_loop_rounds 1 ?_
  rw [rounds_succ]
  go_upto_block 2 with (go_at_call 58; refine (HN.out _).mono ?_; rintro e w1 ⟨rfl, be⟩; have HG1 := Lib.hid (H0.out.keep be); obtain ⟨l', d10, d32, d33, d35, d36, d37, fz'⟩ := id HG1.out.1.at_; have d38 := HG1.out.1.c38; have d39 := HG1.out.1.c39; have d40 := HG1.out.1.c40; clear be)
  have HG := Lib.hid (rst_go HG1.out)
  clear l c10 c32 c33 c35 c36 c37 fz c38 c39 c40 l' d10 d32 d33 d35 d36 d37 fz' d38 d39 d40 HG1
  unfold rst at HG
  obtain ⟨W, hW⟩ : ∃ W, ((((w1.setCell ⟨g, 36, none⟩ (.int .i32 p)).setCell ⟨g, 37, none⟩ (.int .i32 0)).setCell ⟨g, 38, none⟩ (.int .u16 0)).setCell ⟨g, 39, none⟩ (.int .u8 0)).setCell ⟨g, 40, none⟩ (.int .u8 0) = W := ⟨_, rfl⟩
  rw [hW] at HG ⊢
  clear hW
  obtain ⟨l, c10, c32, c33, c35, c36, c37, fz⟩ := id (HG.out.1.at_)
  have c38 := HG.out.1.c38
  have c39 := HG.out.1.c39
  have c40 := HG.out.1.c40
  rw [hc] at c35
  have hat := HG.out.1.at_
  unfold At at hat
  rw [hc] at hat
  have HAT := Lib.hid hat
  clear hc hat
  go_wp2_with fail
  refine (wsn_any _ g s _ (p + wid s p) 45 _ _ HAT.out (wid_le s p hp) hs).mono ?_
  rintro e w4 ⟨rfl, rfl⟩
  rw [HNN.out]
  dsimp only
  obtain ⟨Q1, hQ1⟩ : ∃ q, p + 1 = q := ⟨_, rfl⟩
  obtain ⟨Q3, hQ3⟩ : ∃ q, Q1 + 2 = q := ⟨_, rfl⟩
  have hQ3' : (Q1 : Int) + 2 = (Q3 : Int) := by omega
  have hQ13 : Q1 ≤ Q3 := by omega
  rw [hw, hQ1] at c33
  have HQ := Lib.hid (And.intro hQ1 hQ3)
  clear hQ1 hQ3 hw hb
  by_cases hle : Q3 ≤ s.size
  · obtain ⟨X, hX⟩ : ∃ X, s.extract Q1 Q3 = X := ⟨_, rfl⟩
    have hXn : X ≠ ⟨#[45, 62]⟩ := by
      rw [← hX]
      intro hh
      rw [ext_lit2 s Q1 Q3 45 62 HQ.out.2.symm hle, ← HQ.out.1] at hh
      exact HW.out ⟨hh.1, hh.2⟩
    have hX1 : (X.toList == [45, 62]) = false := by
      rw [beq_eq_false_iff_ne, Go.ByteArray.toList_eq]
      intro hh
      exact hXn (bytes_inj (b := ⟨#[45, 62]⟩) hh)
    have HXN := Lib.hid hXn
    clear hXn
    go_wp2_with fail
    go_region
    all_goals
      have HG1 := Lib.hid HG.out.drew
      have HAT1 := Lib.hid HAT.out.drew
      go_wp2_with fail
      refine (wsl_any _ g s _ (p + wid s p) 45 _ _ HAT1.out HG1.out.1.tabs (wid_le s p hp) hs).mono ?_
      rintro e w4 ⟨rfl, hb4⟩
      have HG2 := Lib.hid (HG1.out.keep hb4)
      rw [HL.out]
      clear hb4
      dsimp only
      go_wp2_with fail
      refine (cil55 HG2.out.1 hp hs HD.out HU.out).mono ?_
      rintro e w6 ⟨rfl, hg⟩
      have HG6 := Lib.hid (HG2.out.trans hg)
      clear hg l c10 c32 c33 c35 c36 c37 fz c38 c39 c40
      obtain ⟨l, c10, c32, c33, c35, c36, c37, fz⟩ := id (HG6.out.1.at_)
      have c38 := HG6.out.1.c38
      have c39 := HG6.out.1.c39
      have c40 := HG6.out.1.c40
      dsimp only
      go_wp2_with fail
      refine bodyPost_ret (results_none rfl _ _ _) rfl ?_
      exact ⟨rfl, HG6.out.set39 _⟩
  · have hQb : Q3 ≤ 1048580 := by have := HQ.out; omega
    go_wp2_with fail
    go_region
    all_goals
      have HG1 := Lib.hid HG.out.drew
      have HAT1 := Lib.hid HAT.out.drew
      go_wp2_with fail
      refine (wsl_any _ g s _ (p + wid s p) 45 _ _ HAT1.out HG1.out.1.tabs (wid_le s p hp) hs).mono ?_
      rintro e w4 ⟨rfl, hb4⟩
      have HG2 := Lib.hid (HG1.out.keep hb4)
      rw [HL.out]
      clear hb4
      dsimp only
      go_wp2_with fail
      refine (cil55 HG2.out.1 hp hs HD.out HU.out).mono ?_
      rintro e w6 ⟨rfl, hg⟩
      have HG6 := Lib.hid (HG2.out.trans hg)
      clear hg l c10 c32 c33 c35 c36 c37 fz c38 c39 c40
      obtain ⟨l, c10, c32, c33, c35, c36, c37, fz⟩ := id (HG6.out.1.at_)
      have c38 := HG6.out.1.c38
      have c39 := HG6.out.1.c39
      have c40 := HG6.out.1.c40
      dsimp only
      go_wp2_with fail
      refine bodyPost_ret (results_none rfl _ _ _) rfl ?_
      exact ⟨rfl, HG6.out.set39 _⟩
set_option maxRecDepth 100000 in
set_option maxHeartbeats 8000000 in
theorem nx_45d {w0 w : World} {g : Nat} {s : ByteArray} {C : Nat → Option Value} {p st : Nat} {u k f : Int} (h : Pl w0 w g s C p st u k f) (hp : p ≤ s.size) (hs : s.size ≤ 1048576) (hst : st ≤ p) (hD : Dom s) (hc : cpOf s p = 45) (hn : wsnA s p = false) (hw2 : ¬ (byt s (p + 1) = 45 ∧ byt s (p + 2) = 62)) (hl2 : wslA s p = false) :
    Calls Tryd.prog 63 #[.pointer (some ⟨g, 0, none⟩)] w fun e w' => e = .returned (.tuple #[]) ∧ Go2 w0 w w' g s C (p + 1) p 0 22 0 := by
  have HC := Lib.hid hc
  obtain ⟨hl, hb⟩ := cp_is s p hp 45 (by omega) hc
  have hw : wid s p = 1 := wid_asc s p hl (by omega)
  have HBP := Lib.hid hb
  have HD := Lib.hid hD
  have HNN := Lib.hid (show wsnB s (p + wid s p) 45 = false by rw [← hc]; exact hn)
  have HW := Lib.hid hw2
  have HL := Lib.hid (show wslB s (p + wid s p) 45 = false by rw [← hc]; exact hl2)
  clear hw2 hD hn hl2
  have hsum : (st : Int) + ((p : Int) - (st : Int)) = (p : Int) := by omega
  have HN := Lib.hid (en58 st ((p : Int) - st) (by omega) (by omega) (by omega))
  rw [hsum] at HN
  have H0 := Lib.hid h.go
  obtain ⟨l, c10, c32, c33, c35, c36, c37, fz⟩ := id h.at_
  have c38 := h.c38
  have c39 := h.c39
  have c40 := h.c40
  clear hsum h
  go_enter Tryd.func63, Tryd.ntmps63
  go_wp2_with fail
  refine wp_loop_rounds 1 ?_
  rw [rounds_succ]
  go_upto_block 2 with (go_at_call 58; refine (HN.out _).mono ?_; rintro e w1 ⟨rfl, be⟩; have HG1 := Lib.hid (H0.out.keep be); obtain ⟨l', d10, d32, d33, d35, d36, d37, fz'⟩ := id HG1.out.1.at_; have d38 := HG1.out.1.c38; have d39 := HG1.out.1.c39; have d40 := HG1.out.1.c40; clear be)
  have HG := Lib.hid (rst_go HG1.out)
  clear l c10 c32 c33 c35 c36 c37 fz c38 c39 c40 l' d10 d32 d33 d35 d36 d37 fz' d38 d39 d40 HG1
  unfold rst at HG
  obtain ⟨W, hW⟩ : ∃ W, ((((w1.setCell ⟨g, 36, none⟩ (.int .i32 p)).setCell ⟨g, 37, none⟩ (.int .i32 0)).setCell ⟨g, 38, none⟩ (.int .u16 0)).setCell ⟨g, 39, none⟩ (.int .u8 0)).setCell ⟨g, 40, none⟩ (.int .u8 0) = W := ⟨_, rfl⟩
  rw [hW] at HG ⊢
  clear hW
  obtain ⟨l, c10, c32, c33, c35, c36, c37, fz⟩ := id (HG.out.1.at_)
  have c38 := HG.out.1.c38
  have c39 := HG.out.1.c39
  have c40 := HG.out.1.c40
  rw [hc] at c35
  have hat := HG.out.1.at_
  unfold At at hat
  rw [hc] at hat
  have HAT := Lib.hid hat
  clear hc hat
  go_wp2_with fail
  refine (wsn_any _ g s _ (p + wid s p) 45 _ _ HAT.out (wid_le s p hp) hs).mono ?_
  rintro e w4 ⟨rfl, rfl⟩
  rw [HNN.out]
  dsimp only
  obtain ⟨Q1, hQ1⟩ : ∃ q, p + 1 = q := ⟨_, rfl⟩
  obtain ⟨Q3, hQ3⟩ : ∃ q, Q1 + 2 = q := ⟨_, rfl⟩
  have hQ3' : (Q1 : Int) + 2 = (Q3 : Int) := by omega
  have hQ13 : Q1 ≤ Q3 := by omega
  rw [hw, hQ1] at c33
  have HQ := Lib.hid (And.intro hQ1 hQ3)
  clear hQ1 hQ3 hw hb
  by_cases hle : Q3 ≤ s.size
  · obtain ⟨X, hX⟩ : ∃ X, s.extract Q1 Q3 = X := ⟨_, rfl⟩
    have hXn : X ≠ ⟨#[45, 62]⟩ := by
      rw [← hX]
      intro hh
      rw [ext_lit2 s Q1 Q3 45 62 HQ.out.2.symm hle, ← HQ.out.1] at hh
      exact HW.out ⟨hh.1, hh.2⟩
    have hX1 : (X.toList == [45, 62]) = false := by
      rw [beq_eq_false_iff_ne, Go.ByteArray.toList_eq]
      intro hh
      exact hXn (bytes_inj (b := ⟨#[45, 62]⟩) hh)
    have HXN := Lib.hid hXn
    clear hXn
    go_wp2_with fail
    go_region
    all_goals
      have HG1 := Lib.hid HG.out.drew
      have HAT1 := Lib.hid HAT.out.drew
      go_wp2_with fail
      refine (wsl_any _ g s _ (p + wid s p) 45 _ _ HAT1.out HG1.out.1.tabs (wid_le s p hp) hs).mono ?_
      rintro e w4 ⟨rfl, hb4⟩
      have HG2 := Lib.hid (HG1.out.keep hb4)
      rw [HL.out]
      clear hb4
      dsimp only
      go_wp2_with fail
      refine (step_pla HG2.out.1 hl (by have := HBP.out; omega) hs (Nat.le_refl p)).mono ?_
      rintro e w2 ⟨rfl, hg⟩
      have HG3 := Lib.hid (HG2.out.trans hg)
      clear hg l c10 c32 c33 c35 c36 c37 fz c38 c39 c40
      obtain ⟨l, c10, c32, c33, c35, c36, c37, fz⟩ := id (HG3.out.1.at_)
      have c38 := HG3.out.1.c38
      have c39 := HG3.out.1.c39
      have c40 := HG3.out.1.c40
      dsimp only
      go_wp2_with fail
      refine bodyPost_ret (results_none rfl _ _ _) rfl ?_
      exact ⟨rfl, HG3.out.set39 22⟩
  · have hQb : Q3 ≤ 1048580 := by have := HQ.out; omega
    go_wp2_with fail
    go_region
    all_goals
      have HG1 := Lib.hid HG.out.drew
      have HAT1 := Lib.hid HAT.out.drew
      go_wp2_with fail
      refine (wsl_any _ g s _ (p + wid s p) 45 _ _ HAT1.out HG1.out.1.tabs (wid_le s p hp) hs).mono ?_
      rintro e w4 ⟨rfl, hb4⟩
      have HG2 := Lib.hid (HG1.out.keep hb4)
      rw [HL.out]
      clear hb4
      dsimp only
      go_wp2_with fail
      refine (step_pla HG2.out.1 hl (by have := HBP.out; omega) hs (Nat.le_refl p)).mono ?_
      rintro e w2 ⟨rfl, hg⟩
      have HG3 := Lib.hid (HG2.out.trans hg)
      clear hg l c10 c32 c33 c35 c36 c37 fz c38 c39 c40
      obtain ⟨l, c10, c32, c33, c35, c36, c37, fz⟩ := id (HG3.out.1.at_)
      have c38 := HG3.out.1.c38
      have c39 := HG3.out.1.c39
      have c40 := HG3.out.1.c40
      dsimp only
      go_wp2_with fail
      refine bodyPost_ret (results_none rfl _ _ _) rfl ?_
      exact ⟨rfl, HG3.out.set39 22⟩
end Go.Proofs.YtocciemgdikmjaaDoor
