/-
  next, a class of code points at a time.
-/
import Derived.Test.YtocciemgdikmjaaDoorD5
namespace Go.Proofs.YtocciemgdikmjaaDoor
open Go.ChangeShapes Go.WideShapes Go.ChangeAt Go.RowKit
open Go.Lib (decodeN decode_at decodeGo)
set_option linter.unusedVariables false
set_option maxRecDepth 100000 in
set_option maxHeartbeats 8000000 in
theorem nx_64a {w0 w : World} {g : Nat} {s : ByteArray} {C : Nat → Option Value} {p st : Nat} {u k f : Int} (h : Pl w0 w g s C p st u k f) (hp : p ≤ s.size) (hs : s.size ≤ 1048576) (hst : st ≤ p) (hD : Dom s) (hc : cpOf s p = 64) (hn : wslA s (p + 1) = true) :
    Calls Tryd.prog 63 #[.pointer (some ⟨g, 0, none⟩)] w fun e w' => e = .returned (.tuple #[]) ∧ Go2 w0 w w' g s C (nmE s (p + 1)) p 0 1 0 := by
  have HC := Lib.hid hc
  obtain ⟨hl, hb⟩ := cp_is s p hp 64 (by omega) hc
  have HNN := Lib.hid hn; have HD := Lib.hid hD
  clear hb hn hD
  have hsum : (st : Int) + ((p : Int) - (st : Int)) = (p : Int) := by omega
  have HN := Lib.hid (en58 st ((p : Int) - st) (by omega) (by omega) (by omega))
  rw [hsum] at HN
  have H0 := Lib.hid h.go
  obtain ⟨l, c10, c32, c33, c35, c36, c37, fz⟩ := id h.at_
  have c38 := h.c38
  have c39 := h.c39
  have c40 := h.c40
  clear hsum h
  go_enter Tryd.func63, Tryd.ntmps63
  go_wp2_with fail
  refine wp_loop_rounds 1 ?_
  rw [rounds_succ]
  go_upto_block 2 with (go_at_call 58; refine (HN.out _).mono ?_; rintro e w1 ⟨rfl, be⟩; have HG1 := Lib.hid (H0.out.keep be); obtain ⟨l', d10, d32, d33, d35, d36, d37, fz'⟩ := id HG1.out.1.at_; have d38 := HG1.out.1.c38; have d39 := HG1.out.1.c39; have d40 := HG1.out.1.c40; clear be)
  have HG := Lib.hid (rst_go HG1.out)
  clear l c10 c32 c33 c35 c36 c37 fz c38 c39 c40 l' d10 d32 d33 d35 d36 d37 fz' d38 d39 d40 HG1
  unfold rst at HG
  obtain ⟨W, hW⟩ : ∃ W, ((((w1.setCell ⟨g, 36, none⟩ (.int .i32 p)).setCell ⟨g, 37, none⟩ (.int .i32 0)).setCell ⟨g, 38, none⟩ (.int .u16 0)).setCell ⟨g, 39, none⟩ (.int .u8 0)).setCell ⟨g, 40, none⟩ (.int .u8 0) = W := ⟨_, rfl⟩
  rw [hW] at HG ⊢
  clear hW
  obtain ⟨l, c10, c32, c33, c35, c36, c37, fz⟩ := id (HG.out.1.at_)
  have c38 := HG.out.1.c38
  have c39 := HG.out.1.c39
  have c40 := HG.out.1.c40
  rw [hc] at c35
  clear hc
  go_wp2_with fail
  refine (step_plc HG.out.1 hp 64 HC.out (by omega) (by omega) hs (Nat.le_refl p)).mono ?_
  rintro e w2 ⟨rfl, hg⟩
  have HG2 := Lib.hid (HG.out.trans hg)
  clear hg l c10 c32 c33 c35 c36 c37 fz c38 c39 c40
  dsimp only
  go_wp2_with fail
  refine (wsl_any _ g s _ (p + 1 + wid s (p + 1)) (cpOf s (p + 1)) _ _ HG2.out.1.at_ HG2.out.1.tabs (wid_le s (p + 1) (by omega)) hs).mono ?_
  rintro e w4 ⟨rfl, hb4⟩
  have HG4 := Lib.hid (HG2.out.keep hb4)
  rw [show wslB s (p + 1 + wid s (p + 1)) (cpOf s (p + 1)) = true from HNN.out]
  clear hb4
  obtain ⟨l, c10, c32, c33, c35, c36, c37, fz⟩ := id (HG4.out.1.at_)
  have c38 := HG4.out.1.c38
  have c39 := HG4.out.1.c39
  have c40 := HG4.out.1.c40
  dsimp only
  go_wp2_with fail
  refine (cn66 HG4.out.1 (by omega) hs (by omega) (ive_no HD.out _ _ (nmE_ge s (p + 1) (by omega)).2)).mono ?_
  rintro e w6 ⟨rfl, hg⟩
  have HG6 := Lib.hid (HG4.out.trans hg)
  clear hg l c10 c32 c33 c35 c36 c37 fz c38 c39 c40
  obtain ⟨l, c10, c32, c33, c35, c36, c37, fz⟩ := id (HG6.out.1.at_)
  have c38 := HG6.out.1.c38
  have c39 := HG6.out.1.c39
  have c40 := HG6.out.1.c40
  dsimp only
  go_wp2_with fail
  refine bodyPost_ret (results_none rfl _ _ _) rfl ?_
  exact ⟨rfl, HG6.out.set39 1⟩
set_option maxRecDepth 100000 in
set_option maxHeartbeats 8000000 in
theorem nx_64b {w0 w : World} {g : Nat} {s : ByteArray} {C : Nat → Option Value} {p st : Nat} {u k f : Int} (h : Pl w0 w g s C p st u k f) (hp : p ≤ s.size) (hs : s.size ≤ 1048576) (hst : st ≤ p) (hD : Dom s) (hc : cpOf s p = 64) (hn : wslA s (p + 1) = false) :
    Calls Tryd.prog 63 #[.pointer (some ⟨g, 0, none⟩)] w fun e w' => e = .returned (.tuple #[]) ∧ Go2 w0 w w' g s C (p + 1) p 0 11 0 := by
  have HC := Lib.hid hc
  obtain ⟨hl, hb⟩ := cp_is s p hp 64 (by omega) hc
  have HNN := Lib.hid hn; have HD := Lib.hid hD
  clear hb hn hD
  have hsum : (st : Int) + ((p : Int) - (st : Int)) = (p : Int) := by omega
  have HN := Lib.hid (en58 st ((p : Int) - st) (by omega) (by omega) (by omega))
  rw [hsum] at HN
  have H0 := Lib.hid h.go
  obtain ⟨l, c10, c32, c33, c35, c36, c37, fz⟩ := id h.at_
  have c38 := h.c38
  have c39 := h.c39
  have c40 := h.c40
  clear hsum h
  go_enter Tryd.func63, Tryd.ntmps63
  go_wp2_with fail
  refine wp_loop_rounds 1 ?_
  rw [rounds_succ]
  go_upto_block 2 with (go_at_call 58; refine (HN.out _).mono ?_; rintro e w1 ⟨rfl, be⟩; have HG1 := Lib.hid (H0.out.keep be); obtain ⟨l', d10, d32, d33, d35, d36, d37, fz'⟩ := id HG1.out.1.at_; have d38 := HG1.out.1.c38; have d39 := HG1.out.1.c39; have d40 := HG1.out.1.c40; clear be)
  have HG := Lib.hid (rst_go HG1.out)
  clear l c10 c32 c33 c35 c36 c37 fz c38 c39 c40 l' d10 d32 d33 d35 d36 d37 fz' d38 d39 d40 HG1
  unfold rst at HG
  obtain ⟨W, hW⟩ : ∃ W, ((((w1.setCell ⟨g, 36, none⟩ (.int .i32 p)).setCell ⟨g, 37, none⟩ (.int .i32 0)).setCell ⟨g, 38, none⟩ (.int .u16 0)).setCell ⟨g, 39, none⟩ (.int .u8 0)).setCell ⟨g, 40, none⟩ (.int .u8 0) = W := ⟨_, rfl⟩
  rw [hW] at HG ⊢
  clear hW
  obtain ⟨l, c10, c32, c33, c35, c36, c37, fz⟩ := id (HG.out.1.at_)
  have c38 := HG.out.1.c38
  have c39 := HG.out.1.c39
  have c40 := HG.out.1.c40
  rw [hc] at c35
  clear hc
  go_wp2_with fail
  refine (step_plc HG.out.1 hp 64 HC.out (by omega) (by omega) hs (Nat.le_refl p)).mono ?_
  rintro e w2 ⟨rfl, hg⟩
  have HG2 := Lib.hid (HG.out.trans hg)
  clear hg l c10 c32 c33 c35 c36 c37 fz c38 c39 c40
  dsimp only
  go_wp2_with fail
  refine (wsl_any _ g s _ (p + 1 + wid s (p + 1)) (cpOf s (p + 1)) _ _ HG2.out.1.at_ HG2.out.1.tabs (wid_le s (p + 1) (by omega)) hs).mono ?_
  rintro e w4 ⟨rfl, hb4⟩
  have HG4 := Lib.hid (HG2.out.keep hb4)
  rw [show wslB s (p + 1 + wid s (p + 1)) (cpOf s (p + 1)) = false from HNN.out]
  clear hb4
  obtain ⟨l, c10, c32, c33, c35, c36, c37, fz⟩ := id (HG4.out.1.at_)
  have c38 := HG4.out.1.c38
  have c39 := HG4.out.1.c39
  have c40 := HG4.out.1.c40
  dsimp only
  go_wp2_with fail
  refine bodyPost_ret (results_none rfl _ _ _) rfl ?_
  exact ⟨rfl, HG4.out.set39 11⟩
set_option maxRecDepth 100000 in
set_option maxHeartbeats 8000000 in
theorem nx_43a {w0 w : World} {g : Nat} {s : ByteArray} {C : Nat → Option Value} {p st : Nat} {u k f : Int} (h : Pl w0 w g s C p st u k f) (hp : p ≤ s.size) (hs : s.size ≤ 1048576) (hst : st ≤ p) (hD : Dom s) (hc : cpOf s p = 43) (hn : wsnA s p = true) :
    Calls Tryd.prog 63 #[.pointer (some ⟨g, 0, none⟩)] w fun e w' => e = .returned (.tuple #[]) ∧ Go2 w0 w w' g s C (numT s p).e p (numT s p).u (numT s p).k 0 := by
  have HC := Lib.hid hc
  have HNN := Lib.hid (show wsnB s (p + wid s p) 43 = true by rw [← hc]; exact hn)
  have HD := Lib.hid hD
  clear hn hD
  have hsum : (st : Int) + ((p : Int) - (st : Int)) = (p : Int) := by omega
  have HN := Lib.hid (en58 st ((p : Int) - st) (by omega) (by omega) (by omega))
  rw [hsum] at HN
  have H0 := Lib.hid h.go
  obtain ⟨l, c10, c32, c33, c35, c36, c37, fz⟩ := id h.at_
  have c38 := h.c38
  have c39 := h.c39
  have c40 := h.c40
  clear hsum h
  go_enter Tryd.func63, Tryd.ntmps63
  go_wp2_with fail
  refine wp_loop_rounds 1 ?_
  rw [rounds_succ]
  go_upto_block 2 with (go_at_call 58; refine (HN.out _).mono ?_; rintro e w1 ⟨rfl, be⟩; have HG1 := Lib.hid (H0.out.keep be); obtain ⟨l', d10, d32, d33, d35, d36, d37, fz'⟩ := id HG1.out.1.at_; have d38 := HG1.out.1.c38; have d39 := HG1.out.1.c39; have d40 := HG1.out.1.c40; clear be)
  have HG := Lib.hid (rst_go HG1.out)
  clear l c10 c32 c33 c35 c36 c37 fz c38 c39 c40 l' d10 d32 d33 d35 d36 d37 fz' d38 d39 d40 HG1
  unfold rst at HG
  obtain ⟨W, hW⟩ : ∃ W, ((((w1.setCell ⟨g, 36, none⟩ (.int .i32 p)).setCell ⟨g, 37, none⟩ (.int .i32 0)).setCell ⟨g, 38, none⟩ (.int .u16 0)).setCell ⟨g, 39, none⟩ (.int .u8 0)).setCell ⟨g, 40, none⟩ (.int .u8 0) = W := ⟨_, rfl⟩
  rw [hW] at HG ⊢
  clear hW
  obtain ⟨l, c10, c32, c33, c35, c36, c37, fz⟩ := id (HG.out.1.at_)
  have c38 := HG.out.1.c38
  have c39 := HG.out.1.c39
  have c40 := HG.out.1.c40
  rw [hc] at c35
  have hat := HG.out.1.at_
  unfold At at hat
  rw [hc] at hat
  have HAT := Lib.hid hat
  clear hc hat
  go_wp2_with fail
  refine (wsn_any _ g s _ (p + wid s p) 43 _ _ HAT.out (wid_le s p hp) hs).mono ?_
  rintro e w4 ⟨rfl, rfl⟩
  rw [HNN.out]
  dsimp only
  go_wp2_with fail
  refine (cnum80' HG.out.1 hp hs HD.out).mono ?_
  rintro e w6 ⟨rfl, hg⟩
  have HG6 := Lib.hid (HG.out.trans hg)
  clear hg l c10 c32 c33 c35 c36 c37 fz c38 c39 c40
  obtain ⟨l, c10, c32, c33, c35, c36, c37, fz⟩ := id (HG6.out.1.at_)
  have c38 := HG6.out.1.c38
  have c39 := HG6.out.1.c39
  have c40 := HG6.out.1.c40
  dsimp only
  go_wp2_with fail
  refine bodyPost_ret (results_none rfl _ _ _) rfl ?_
  exact ⟨rfl, HG6.out.set39 _⟩
set_option maxRecDepth 100000 in
set_option maxHeartbeats 8000000 in
theorem nx_43b {w0 w : World} {g : Nat} {s : ByteArray} {C : Nat → Option Value} {p st : Nat} {u k f : Int} (h : Pl w0 w g s C p st u k f) (hp : p ≤ s.size) (hs : s.size ≤ 1048576) (hst : st ≤ p) (hD : Dom s) (hc : cpOf s p = 43) (hn : wsnA s p = false) :
    Calls Tryd.prog 63 #[.pointer (some ⟨g, 0, none⟩)] w fun e w' => e = .returned (.tuple #[]) ∧ Go2 w0 w w' g s C (p + 1) p 0 23 0 := by
  have HC := Lib.hid hc
  have HNN := Lib.hid (show wsnB s (p + wid s p) 43 = false by rw [← hc]; exact hn)
  have HD := Lib.hid hD
  clear hn hD
  have hsum : (st : Int) + ((p : Int) - (st : Int)) = (p : Int) := by omega
  have HN := Lib.hid (en58 st ((p : Int) - st) (by omega) (by omega) (by omega))
  rw [hsum] at HN
  have H0 := Lib.hid h.go
  obtain ⟨l, c10, c32, c33, c35, c36, c37, fz⟩ := id h.at_
  have c38 := h.c38
  have c39 := h.c39
  have c40 := h.c40
  clear hsum h
  go_enter Tryd.func63, Tryd.ntmps63
  go_wp2_with fail
  refine wp_loop_rounds 1 ?_
  rw [rounds_succ]
  go_upto_block 2 with (go_at_call 58; refine (HN.out _).mono ?_; rintro e w1 ⟨rfl, be⟩; have HG1 := Lib.hid (H0.out.keep be); obtain ⟨l', d10, d32, d33, d35, d36, d37, fz'⟩ := id HG1.out.1.at_; have d38 := HG1.out.1.c38; have d39 := HG1.out.1.c39; have d40 := HG1.out.1.c40; clear be)
  have HG := Lib.hid (rst_go HG1.out)
  clear l c10 c32 c33 c35 c36 c37 fz c38 c39 c40 l' d10 d32 d33 d35 d36 d37 fz' d38 d39 d40 HG1
  unfold rst at HG
  obtain ⟨W, hW⟩ : ∃ W, ((((w1.setCell ⟨g, 36, none⟩ (.int .i32 p)).setCell ⟨g, 37, none⟩ (.int .i32 0)).setCell ⟨g, 38, none⟩ (.int .u16 0)).setCell ⟨g, 39, none⟩ (.int .u8 0)).setCell ⟨g, 40, none⟩ (.int .u8 0) = W := ⟨_, rfl⟩
  rw [hW] at HG ⊢
  clear hW
  obtain ⟨l, c10, c32, c33, c35, c36, c37, fz⟩ := id (HG.out.1.at_)
  have c38 := HG.out.1.c38
  have c39 := HG.out.1.c39
  have c40 := HG.out.1.c40
  rw [hc] at c35
  have hat := HG.out.1.at_
  unfold At at hat
  rw [hc] at hat
  have HAT := Lib.hid hat
  clear hc hat
  go_wp2_with fail
  refine (wsn_any _ g s _ (p + wid s p) 43 _ _ HAT.out (wid_le s p hp) hs).mono ?_
  rintro e w4 ⟨rfl, rfl⟩
  rw [HNN.out]
  dsimp only
  go_wp2_with fail
  refine (step_plc HG.out.1 hp 43 HC.out (by omega) (by omega) hs (Nat.le_refl p)).mono ?_
  rintro e w2 ⟨rfl, hg⟩
  have HG2 := Lib.hid (HG.out.trans hg)
  clear hg l c10 c32 c33 c35 c36 c37 fz c38 c39 c40
  obtain ⟨l, c10, c32, c33, c35, c36, c37, fz⟩ := id (HG2.out.1.at_)
  have c38 := HG2.out.1.c38
  have c39 := HG2.out.1.c39
  have c40 := HG2.out.1.c40
  dsimp only
  go_wp2_with fail
  refine bodyPost_ret (results_none rfl _ _ _) rfl ?_
  exact ⟨rfl, HG2.out.set39 23⟩
set_option maxRecDepth 100000 in
set_option maxHeartbeats 8000000 in
theorem nx_46a {w0 w : World} {g : Nat} {s : ByteArray} {C : Nat → Option Value} {p st : Nat} {u k f : Int} (h : Pl w0 w g s C p st u k f) (hp : p ≤ s.size) (hs : s.size ≤ 1048576) (hst : st ≤ p) (hD : Dom s) (hc : cpOf s p = 46) (hn : wsnA s p = true) :
    Calls Tryd.prog 63 #[.pointer (some ⟨g, 0, none⟩)] w fun e w' => e = .returned (.tuple #[]) ∧ Go2 w0 w w' g s C (numT s p).e p (numT s p).u (numT s p).k 0 := by
  have HC := Lib.hid hc
  have HNN := Lib.hid (show wsnB s (p + wid s p) 46 = true by rw [← hc]; exact hn)
  have HD := Lib.hid hD
  clear hn hD
  have hsum : (st : Int) + ((p : Int) - (st : Int)) = (p : Int) := by omega
  have HN := Lib.hid (en58 st ((p : Int) - st) (by omega) (by omega) (by omega))
  rw [hsum] at HN
  have H0 := Lib.hid h.go
  obtain ⟨l, c10, c32, c33, c35, c36, c37, fz⟩ := id h.at_
  have c38 := h.c38
  have c39 := h.c39
  have c40 := h.c40
  clear hsum h
  go_enter Tryd.func63, Tryd.ntmps63
  go_wp2_with fail
  refine wp_loop_rounds 1 ?_
  rw [rounds_succ]
  go_upto_block 2 with (go_at_call 58; refine (HN.out _).mono ?_; rintro e w1 ⟨rfl, be⟩; have HG1 := Lib.hid (H0.out.keep be); obtain ⟨l', d10, d32, d33, d35, d36, d37, fz'⟩ := id HG1.out.1.at_; have d38 := HG1.out.1.c38; have d39 := HG1.out.1.c39; have d40 := HG1.out.1.c40; clear be)
  have HG := Lib.hid (rst_go HG1.out)
  clear l c10 c32 c33 c35 c36 c37 fz c38 c39 c40 l' d10 d32 d33 d35 d36 d37 fz' d38 d39 d40 HG1
  unfold rst at HG
  obtain ⟨W, hW⟩ : ∃ W, ((((w1.setCell ⟨g, 36, none⟩ (.int .i32 p)).setCell ⟨g, 37, none⟩ (.int .i32 0)).setCell ⟨g, 38, none⟩ (.int .u16 0)).setCell ⟨g, 39, none⟩ (.int .u8 0)).setCell ⟨g, 40, none⟩ (.int .u8 0) = W := ⟨_, rfl⟩
  rw [hW] at HG ⊢
  clear hW
  obtain ⟨l, c10, c32, c33, c35, c36, c37, fz⟩ := id (HG.out.1.at_)
  have c38 := HG.out.1.c38
  have c39 := HG.out.1.c39
  have c40 := HG.out.1.c40
  rw [hc] at c35
  have hat := HG.out.1.at_
  unfold At at hat
  rw [hc] at hat
  have HAT := Lib.hid hat
  clear hc hat
  go_wp2_with fail
  refine (wsn_any _ g s _ (p + wid s p) 46 _ _ HAT.out (wid_le s p hp) hs).mono ?_
  rintro e w4 ⟨rfl, rfl⟩
  rw [HNN.out]
  dsimp only
  go_wp2_with fail
  refine (cnum80' HG.out.1 hp hs HD.out).mono ?_
  rintro e w6 ⟨rfl, hg⟩
  have HG6 := Lib.hid (HG.out.trans hg)
  clear hg l c10 c32 c33 c35 c36 c37 fz c38 c39 c40
  obtain ⟨l, c10, c32, c33, c35, c36, c37, fz⟩ := id (HG6.out.1.at_)
  have c38 := HG6.out.1.c38
  have c39 := HG6.out.1.c39
  have c40 := HG6.out.1.c40
  dsimp only
  go_wp2_with fail
  refine bodyPost_ret (results_none rfl _ _ _) rfl ?_
  exact ⟨rfl, HG6.out.set39 _⟩
set_option maxRecDepth 100000 in
set_option maxHeartbeats 8000000 in
theorem nx_46b {w0 w : World} {g : Nat} {s : ByteArray} {C : Nat → Option Value} {p st : Nat} {u k f : Int} (h : Pl w0 w g s C p st u k f) (hp : p ≤ s.size) (hs : s.size ≤ 1048576) (hst : st ≤ p) (hD : Dom s) (hc : cpOf s p = 46) (hn : wsnA s p = false) :
    Calls Tryd.prog 63 #[.pointer (some ⟨g, 0, none⟩)] w fun e w' => e = .returned (.tuple #[]) ∧ Go2 w0 w w' g s C (p + 1) p 0 17 0 := by
  have HC := Lib.hid hc
  have HNN := Lib.hid (show wsnB s (p + wid s p) 46 = false by rw [← hc]; exact hn)
  have HD := Lib.hid hD
  clear hn hD
  have hsum : (st : Int) + ((p : Int) - (st : Int)) = (p : Int) := by omega
  have HN := Lib.hid (en58 st ((p : Int) - st) (by omega) (by omega) (by omega))
  rw [hsum] at HN
  have H0 := Lib.hid h.go
  obtain ⟨l, c10, c32, c33, c35, c36, c37, fz⟩ := id h.at_
  have c38 := h.c38
  have c39 := h.c39
  have c40 := h.c40
  clear hsum h
  go_enter Tryd.func63, Tryd.ntmps63
  go_wp2_with fail
  refine wp_loop_rounds 1 ?_
  rw [rounds_succ]
  go_upto_block 2 with (go_at_call 58; refine (HN.out _).mono ?_; rintro e w1 ⟨rfl, be⟩; have HG1 := Lib.hid (H0.out.keep be); obtain ⟨l', d10, d32, d33, d35, d36, d37, fz'⟩ := id HG1.out.1.at_; have d38 := HG1.out.1.c38; have d39 := HG1.out.1.c39; have d40 := HG1.out.1.c40; clear be)
  have HG := Lib.hid (rst_go HG1.out)
  clear l c10 c32 c33 c35 c36 c37 fz c38 c39 c40 l' d10 d32 d33 d35 d36 d37 fz' d38 d39 d40 HG1
  unfold rst at HG
  obtain ⟨W, hW⟩ : ∃ W, ((((w1.setCell ⟨g, 36, none⟩ (.int .i32 p)).setCell ⟨g, 37, none⟩ (.int .i32 0)).setCell ⟨g, 38, none⟩ (.int .u16 0)).setCell ⟨g, 39, none⟩ (.int .u8 0)).setCell ⟨g, 40, none⟩ (.int .u8 0) = W := ⟨_, rfl⟩
  rw [hW] at HG ⊢
  clear hW
  obtain ⟨l, c10, c32, c33, c35, c36, c37, fz⟩ := id (HG.out.1.at_)
  have c38 := HG.out.1.c38
  have c39 := HG.out.1.c39
  have c40 := HG.out.1.c40
  rw [hc] at c35
  have hat := HG.out.1.at_
  unfold At at hat
  rw [hc] at hat
  have HAT := Lib.hid hat
  clear hc hat
  go_wp2_with fail
  refine (wsn_any _ g s _ (p + wid s p) 46 _ _ HAT.out (wid_le s p hp) hs).mono ?_
  rintro e w4 ⟨rfl, rfl⟩
  rw [HNN.out]
  dsimp only
  go_wp2_with fail
  refine (step_plc HG.out.1 hp 46 HC.out (by omega) (by omega) hs (Nat.le_refl p)).mono ?_
  rintro e w2 ⟨rfl, hg⟩
  have HG2 := Lib.hid (HG.out.trans hg)
  clear hg l c10 c32 c33 c35 c36 c37 fz c38 c39 c40
  obtain ⟨l, c10, c32, c33, c35, c36, c37, fz⟩ := id (HG2.out.1.at_)
  have c38 := HG2.out.1.c38
  have c39 := HG2.out.1.c39
  have c40 := HG2.out.1.c40
  dsimp only
  go_wp2_with fail
  refine bodyPost_ret (results_none rfl _ _ _) rfl ?_
  exact ⟨rfl, HG2.out.set39 17⟩
end Go.Proofs.YtocciemgdikmjaaDoor
