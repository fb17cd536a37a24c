/-
  next, a class of code points at a time.
-/
import Derived.Test.YtocciemgdikmjaaDoorD5
namespace Go.Proofs.YtocciemgdikmjaaDoor
open Go.ChangeShapes Go.WideShapes Go.ChangeAt Go.RowKit
open Go.Lib (decodeN decode_at decodeGo)
set_option linter.unusedVariables false
set_option maxRecDepth 100000 in
set_option maxHeartbeats 8000000 in
theorem nx_62 {w0 w : World} {g : Nat} {s : ByteArray} {C : Nat → Option Value} {p st : Nat} {u k f : Int} (h : Pl w0 w g s C p st u k f) (hp : p ≤ s.size) (hs : s.size ≤ 1048576) (hst : st ≤ p) (hc : cpOf s p = 62) :
    Calls Tryd.prog 63 #[.pointer (some ⟨g, 0, none⟩)] w fun e w' => e = .returned (.tuple #[]) ∧ Go2 w0 w w' g s C (p + 1) p 0 20 0 := by
  have HC := Lib.hid hc
  have hsum : (st : Int) + ((p : Int) - (st : Int)) = (p : Int) := by omega
  have HN := Lib.hid (en58 st ((p : Int) - st) (by omega) (by omega) (by omega))
  rw [hsum] at HN
  have H0 := Lib.hid h.go
  obtain ⟨l, c10, c32, c33, c35, c36, c37, fz⟩ := id h.at_
  have c38 := h.c38
  have c39 := h.c39
  have c40 := h.c40
  clear hsum h
  go_enter Tryd.func63, Tryd.ntmps63
  go_wp2_with fail
  refine wp_loop_rounds 1 ?_
  rw [rounds_succ]
  go_upto_block 2 with (go_at_call 58; refine (HN.out _).mono ?_; rintro e w1 ⟨rfl, be⟩; have HG1 := Lib.hid (H0.out.keep be); obtain ⟨l', d10, d32, d33, d35, d36, d37, fz'⟩ := id HG1.out.1.at_; have d38 := HG1.out.1.c38; have d39 := HG1.out.1.c39; have d40 := HG1.out.1.c40; clear be)
  have HG := Lib.hid (rst_go HG1.out)
  clear l c10 c32 c33 c35 c36 c37 fz c38 c39 c40 l' d10 d32 d33 d35 d36 d37 fz' d38 d39 d40 HG1
  unfold rst at HG
  obtain ⟨W, hW⟩ : ∃ W, ((((w1.setCell ⟨g, 36, none⟩ (.int .i32 p)).setCell ⟨g, 37, none⟩ (.int .i32 0)).setCell ⟨g, 38, none⟩ (.int .u16 0)).setCell ⟨g, 39, none⟩ (.int .u8 0)).setCell ⟨g, 40, none⟩ (.int .u8 0) = W := ⟨_, rfl⟩
  rw [hW] at HG ⊢
  clear hW
  obtain ⟨l, c10, c32, c33, c35, c36, c37, fz⟩ := id (HG.out.1.at_)
  have c38 := HG.out.1.c38
  have c39 := HG.out.1.c39
  have c40 := HG.out.1.c40
  rw [hc] at c35
  clear hc
  go_wp2_with fail
  refine (step_plc HG.out.1 hp 62 HC.out (by omega) (by omega) hs (Nat.le_refl p)).mono ?_
  rintro e w2 ⟨rfl, hg⟩
  have HG2 := Lib.hid (HG.out.trans hg)
  clear hg l c10 c32 c33 c35 c36 c37 fz c38 c39 c40
  obtain ⟨l, c10, c32, c33, c35, c36, c37, fz⟩ := id (HG2.out.1.at_)
  have c38 := HG2.out.1.c38
  have c39 := HG2.out.1.c39
  have c40 := HG2.out.1.c40
  dsimp only
  go_wp2_with fail
  refine bodyPost_ret (results_none rfl _ _ _) rfl ?_
  exact ⟨rfl, HG2.out.set39 20⟩
set_option maxRecDepth 100000 in
set_option maxHeartbeats 8000000 in
theorem nx_126 {w0 w : World} {g : Nat} {s : ByteArray} {C : Nat → Option Value} {p st : Nat} {u k f : Int} (h : Pl w0 w g s C p st u k f) (hp : p ≤ s.size) (hs : s.size ≤ 1048576) (hst : st ≤ p) (hc : cpOf s p = 126) :
    Calls Tryd.prog 63 #[.pointer (some ⟨g, 0, none⟩)] w fun e w' => e = .returned (.tuple #[]) ∧ Go2 w0 w w' g s C (p + 1) p 0 25 0 := by
  have HC := Lib.hid hc
  have hsum : (st : Int) + ((p : Int) - (st : Int)) = (p : Int) := by omega
  have HN := Lib.hid (en58 st ((p : Int) - st) (by omega) (by omega) (by omega))
  rw [hsum] at HN
  have H0 := Lib.hid h.go
  obtain ⟨l, c10, c32, c33, c35, c36, c37, fz⟩ := id h.at_
  have c38 := h.c38
  have c39 := h.c39
  have c40 := h.c40
  clear hsum h
  go_enter Tryd.func63, Tryd.ntmps63
  go_wp2_with fail
  refine wp_loop_rounds 1 ?_
  rw [rounds_succ]
  go_upto_block 2 with (go_at_call 58; refine (HN.out _).mono ?_; rintro e w1 ⟨rfl, be⟩; have HG1 := Lib.hid (H0.out.keep be); obtain ⟨l', d10, d32, d33, d35, d36, d37, fz'⟩ := id HG1.out.1.at_; have d38 := HG1.out.1.c38; have d39 := HG1.out.1.c39; have d40 := HG1.out.1.c40; clear be)
  have HG := Lib.hid (rst_go HG1.out)
  clear l c10 c32 c33 c35 c36 c37 fz c38 c39 c40 l' d10 d32 d33 d35 d36 d37 fz' d38 d39 d40 HG1
  unfold rst at HG
  obtain ⟨W, hW⟩ : ∃ W, ((((w1.setCell ⟨g, 36, none⟩ (.int .i32 p)).setCell ⟨g, 37, none⟩ (.int .i32 0)).setCell ⟨g, 38, none⟩ (.int .u16 0)).setCell ⟨g, 39, none⟩ (.int .u8 0)).setCell ⟨g, 40, none⟩ (.int .u8 0) = W := ⟨_, rfl⟩
  rw [hW] at HG ⊢
  clear hW
  obtain ⟨l, c10, c32, c33, c35, c36, c37, fz⟩ := id (HG.out.1.at_)
  have c38 := HG.out.1.c38
  have c39 := HG.out.1.c39
  have c40 := HG.out.1.c40
  rw [hc] at c35
  clear hc
  go_wp2_with fail
  refine (step_plc HG.out.1 hp 126 HC.out (by omega) (by omega) hs (Nat.le_refl p)).mono ?_
  rintro e w2 ⟨rfl, hg⟩
  have HG2 := Lib.hid (HG.out.trans hg)
  clear hg l c10 c32 c33 c35 c36 c37 fz c38 c39 c40
  obtain ⟨l, c10, c32, c33, c35, c36, c37, fz⟩ := id (HG2.out.1.at_)
  have c38 := HG2.out.1.c38
  have c39 := HG2.out.1.c39
  have c40 := HG2.out.1.c40
  dsimp only
  go_wp2_with fail
  refine bodyPost_ret (results_none rfl _ _ _) rfl ?_
  exact ⟨rfl, HG2.out.set39 25⟩
set_option maxRecDepth 100000 in
set_option maxHeartbeats 8000000 in
theorem nx_38 {w0 w : World} {g : Nat} {s : ByteArray} {C : Nat → Option Value} {p st : Nat} {u k f : Int} (h : Pl w0 w g s C p st u k f) (hp : p ≤ s.size) (hs : s.size ≤ 1048576) (hst : st ≤ p) (hc : cpOf s p = 38) :
    Calls Tryd.prog 63 #[.pointer (some ⟨g, 0, none⟩)] w fun e w' => e = .returned (.tuple #[]) ∧ Go2 w0 w w' g s C (p + 1) p 0 12 0 := by
  have HC := Lib.hid hc
  have hsum : (st : Int) + ((p : Int) - (st : Int)) = (p : Int) := by omega
  have HN := Lib.hid (en58 st ((p : Int) - st) (by omega) (by omega) (by omega))
  rw [hsum] at HN
  have H0 := Lib.hid h.go
  obtain ⟨l, c10, c32, c33, c35, c36, c37, fz⟩ := id h.at_
  have c38 := h.c38
  have c39 := h.c39
  have c40 := h.c40
  clear hsum h
  go_enter Tryd.func63, Tryd.ntmps63
  go_wp2_with fail
  refine wp_loop_rounds 1 ?_
  rw [rounds_succ]
  go_upto_block 2 with (go_at_call 58; refine (HN.out _).mono ?_; rintro e w1 ⟨rfl, be⟩; have HG1 := Lib.hid (H0.out.keep be); obtain ⟨l', d10, d32, d33, d35, d36, d37, fz'⟩ := id HG1.out.1.at_; have d38 := HG1.out.1.c38; have d39 := HG1.out.1.c39; have d40 := HG1.out.1.c40; clear be)
  have HG := Lib.hid (rst_go HG1.out)
  clear l c10 c32 c33 c35 c36 c37 fz c38 c39 c40 l' d10 d32 d33 d35 d36 d37 fz' d38 d39 d40 HG1
  unfold rst at HG
  obtain ⟨W, hW⟩ : ∃ W, ((((w1.setCell ⟨g, 36, none⟩ (.int .i32 p)).setCell ⟨g, 37, none⟩ (.int .i32 0)).setCell ⟨g, 38, none⟩ (.int .u16 0)).setCell ⟨g, 39, none⟩ (.int .u8 0)).setCell ⟨g, 40, none⟩ (.int .u8 0) = W := ⟨_, rfl⟩
  rw [hW] at HG ⊢
  clear hW
  obtain ⟨l, c10, c32, c33, c35, c36, c37, fz⟩ := id (HG.out.1.at_)
  have c38 := HG.out.1.c38
  have c39 := HG.out.1.c39
  have c40 := HG.out.1.c40
  rw [hc] at c35
  clear hc
  go_wp2_with fail
  refine (step_plc HG.out.1 hp 38 HC.out (by omega) (by omega) hs (Nat.le_refl p)).mono ?_
  rintro e w2 ⟨rfl, hg⟩
  have HG2 := Lib.hid (HG.out.trans hg)
  clear hg l c10 c32 c33 c35 c36 c37 fz c38 c39 c40
  obtain ⟨l, c10, c32, c33, c35, c36, c37, fz⟩ := id (HG2.out.1.at_)
  have c38 := HG2.out.1.c38
  have c39 := HG2.out.1.c39
  have c40 := HG2.out.1.c40
  dsimp only
  go_wp2_with fail
  refine bodyPost_ret (results_none rfl _ _ _) rfl ?_
  exact ⟨rfl, HG2.out.set39 12⟩
set_option maxRecDepth 100000 in
set_option maxHeartbeats 8000000 in
theorem nx_42 {w0 w : World} {g : Nat} {s : ByteArray} {C : Nat → Option Value} {p st : Nat} {u k f : Int} (h : Pl w0 w g s C p st u k f) (hp : p ≤ s.size) (hs : s.size ≤ 1048576) (hst : st ≤ p) (hc : cpOf s p = 42) :
    Calls Tryd.prog 63 #[.pointer (some ⟨g, 0, none⟩)] w fun e w' => e = .returned (.tuple #[]) ∧ Go2 w0 w w' g s C (p + 1) p 0 13 0 := by
  have HC := Lib.hid hc
  have hsum : (st : Int) + ((p : Int) - (st : Int)) = (p : Int) := by omega
  have HN := Lib.hid (en58 st ((p : Int) - st) (by omega) (by omega) (by omega))
  rw [hsum] at HN
  have H0 := Lib.hid h.go
  obtain ⟨l, c10, c32, c33, c35, c36, c37, fz⟩ := id h.at_
  have c38 := h.c38
  have c39 := h.c39
  have c40 := h.c40
  clear hsum h
  go_enter Tryd.func63, Tryd.ntmps63
  go_wp2_with fail
  refine wp_loop_rounds 1 ?_
  rw [rounds_succ]
  go_upto_block 2 with (go_at_call 58; refine (HN.out _).mono ?_; rintro e w1 ⟨rfl, be⟩; have HG1 := Lib.hid (H0.out.keep be); obtain ⟨l', d10, d32, d33, d35, d36, d37, fz'⟩ := id HG1.out.1.at_; have d38 := HG1.out.1.c38; have d39 := HG1.out.1.c39; have d40 := HG1.out.1.c40; clear be)
  have HG := Lib.hid (rst_go HG1.out)
  clear l c10 c32 c33 c35 c36 c37 fz c38 c39 c40 l' d10 d32 d33 d35 d36 d37 fz' d38 d39 d40 HG1
  unfold rst at HG
  obtain ⟨W, hW⟩ : ∃ W, ((((w1.setCell ⟨g, 36, none⟩ (.int .i32 p)).setCell ⟨g, 37, none⟩ (.int .i32 0)).setCell ⟨g, 38, none⟩ (.int .u16 0)).setCell ⟨g, 39, none⟩ (.int .u8 0)).setCell ⟨g, 40, none⟩ (.int .u8 0) = W := ⟨_, rfl⟩
  rw [hW] at HG ⊢
  clear hW
  obtain ⟨l, c10, c32, c33, c35, c36, c37, fz⟩ := id (HG.out.1.at_)
  have c38 := HG.out.1.c38
  have c39 := HG.out.1.c39
  have c40 := HG.out.1.c40
  rw [hc] at c35
  clear hc
  go_wp2_with fail
  refine (step_plc HG.out.1 hp 42 HC.out (by omega) (by omega) hs (Nat.le_refl p)).mono ?_
  rintro e w2 ⟨rfl, hg⟩
  have HG2 := Lib.hid (HG.out.trans hg)
  clear hg l c10 c32 c33 c35 c36 c37 fz c38 c39 c40
  obtain ⟨l, c10, c32, c33, c35, c36, c37, fz⟩ := id (HG2.out.1.at_)
  have c38 := HG2.out.1.c38
  have c39 := HG2.out.1.c39
  have c40 := HG2.out.1.c40
  dsimp only
  go_wp2_with fail
  refine bodyPost_ret (results_none rfl _ _ _) rfl ?_
  exact ⟨rfl, HG2.out.set39 13⟩
set_option maxRecDepth 100000 in
set_option maxHeartbeats 8000000 in
theorem nx_124 {w0 w : World} {g : Nat} {s : ByteArray} {C : Nat → Option Value} {p st : Nat} {u k f : Int} (h : Pl w0 w g s C p st u k f) (hp : p ≤ s.size) (hs : s.size ≤ 1048576) (hst : st ≤ p) (hc : cpOf s p = 124) :
    Calls Tryd.prog 63 #[.pointer (some ⟨g, 0, none⟩)] w fun e w' => e = .returned (.tuple #[]) ∧ Go2 w0 w w' g s C (p + 1) p 0 14 0 := by
  have HC := Lib.hid hc
  have hsum : (st : Int) + ((p : Int) - (st : Int)) = (p : Int) := by omega
  have HN := Lib.hid (en58 st ((p : Int) - st) (by omega) (by omega) (by omega))
  rw [hsum] at HN
  have H0 := Lib.hid h.go
  obtain ⟨l, c10, c32, c33, c35, c36, c37, fz⟩ := id h.at_
  have c38 := h.c38
  have c39 := h.c39
  have c40 := h.c40
  clear hsum h
  go_enter Tryd.func63, Tryd.ntmps63
  go_wp2_with fail
  refine wp_loop_rounds 1 ?_
  rw [rounds_succ]
  go_upto_block 2 with (go_at_call 58; refine (HN.out _).mono ?_; rintro e w1 ⟨rfl, be⟩; have HG1 := Lib.hid (H0.out.keep be); obtain ⟨l', d10, d32, d33, d35, d36, d37, fz'⟩ := id HG1.out.1.at_; have d38 := HG1.out.1.c38; have d39 := HG1.out.1.c39; have d40 := HG1.out.1.c40; clear be)
  have HG := Lib.hid (rst_go HG1.out)
  clear l c10 c32 c33 c35 c36 c37 fz c38 c39 c40 l' d10 d32 d33 d35 d36 d37 fz' d38 d39 d40 HG1
  unfold rst at HG
  obtain ⟨W, hW⟩ : ∃ W, ((((w1.setCell ⟨g, 36, none⟩ (.int .i32 p)).setCell ⟨g, 37, none⟩ (.int .i32 0)).setCell ⟨g, 38, none⟩ (.int .u16 0)).setCell ⟨g, 39, none⟩ (.int .u8 0)).setCell ⟨g, 40, none⟩ (.int .u8 0) = W := ⟨_, rfl⟩
  rw [hW] at HG ⊢
  clear hW
  obtain ⟨l, c10, c32, c33, c35, c36, c37, fz⟩ := id (HG.out.1.at_)
  have c38 := HG.out.1.c38
  have c39 := HG.out.1.c39
  have c40 := HG.out.1.c40
  rw [hc] at c35
  clear hc
  go_wp2_with fail
  refine (step_plc HG.out.1 hp 124 HC.out (by omega) (by omega) hs (Nat.le_refl p)).mono ?_
  rintro e w2 ⟨rfl, hg⟩
  have HG2 := Lib.hid (HG.out.trans hg)
  clear hg l c10 c32 c33 c35 c36 c37 fz c38 c39 c40
  obtain ⟨l, c10, c32, c33, c35, c36, c37, fz⟩ := id (HG2.out.1.at_)
  have c38 := HG2.out.1.c38
  have c39 := HG2.out.1.c39
  have c40 := HG2.out.1.c40
  dsimp only
  go_wp2_with fail
  refine bodyPost_ret (results_none rfl _ _ _) rfl ?_
  exact ⟨rfl, HG2.out.set39 14⟩
set_option maxRecDepth 100000 in
set_option maxHeartbeats 8000000 in
theorem nx_33 {w0 w : World} {g : Nat} {s : ByteArray} {C : Nat → Option Value} {p st : Nat} {u k f : Int} (h : Pl w0 w g s C p st u k f) (hp : p ≤ s.size) (hs : s.size ≤ 1048576) (hst : st ≤ p) (hc : cpOf s p = 33) :
    Calls Tryd.prog 63 #[.pointer (some ⟨g, 0, none⟩)] w fun e w' => e = .returned (.tuple #[]) ∧ Go2 w0 w w' g s C (p + 1) p 0 19 0 := by
  have HC := Lib.hid hc
  have hsum : (st : Int) + ((p : Int) - (st : Int)) = (p : Int) := by omega
  have HN := Lib.hid (en58 st ((p : Int) - st) (by omega) (by omega) (by omega))
  rw [hsum] at HN
  have H0 := Lib.hid h.go
  obtain ⟨l, c10, c32, c33, c35, c36, c37, fz⟩ := id h.at_
  have c38 := h.c38
  have c39 := h.c39
  have c40 := h.c40
  clear hsum h
  go_enter Tryd.func63, Tryd.ntmps63
  go_wp2_with fail
  refine wp_loop_rounds 1 ?_
  rw [rounds_succ]
  go_upto_block 2 with (go_at_call 58; refine (HN.out _).mono ?_; rintro e w1 ⟨rfl, be⟩; have HG1 := Lib.hid (H0.out.keep be); obtain ⟨l', d10, d32, d33, d35, d36, d37, fz'⟩ := id HG1.out.1.at_; have d38 := HG1.out.1.c38; have d39 := HG1.out.1.c39; have d40 := HG1.out.1.c40; clear be)
  have HG := Lib.hid (rst_go HG1.out)
  clear l c10 c32 c33 c35 c36 c37 fz c38 c39 c40 l' d10 d32 d33 d35 d36 d37 fz' d38 d39 d40 HG1
  unfold rst at HG
  obtain ⟨W, hW⟩ : ∃ W, ((((w1.setCell ⟨g, 36, none⟩ (.int .i32 p)).setCell ⟨g, 37, none⟩ (.int .i32 0)).setCell ⟨g, 38, none⟩ (.int .u16 0)).setCell ⟨g, 39, none⟩ (.int .u8 0)).setCell ⟨g, 40, none⟩ (.int .u8 0) = W := ⟨_, rfl⟩
  rw [hW] at HG ⊢
  clear hW
  obtain ⟨l, c10, c32, c33, c35, c36, c37, fz⟩ := id (HG.out.1.at_)
  have c38 := HG.out.1.c38
  have c39 := HG.out.1.c39
  have c40 := HG.out.1.c40
  rw [hc] at c35
  clear hc
  go_wp2_with fail
  refine (step_plc HG.out.1 hp 33 HC.out (by omega) (by omega) hs (Nat.le_refl p)).mono ?_
  rintro e w2 ⟨rfl, hg⟩
  have HG2 := Lib.hid (HG.out.trans hg)
  clear hg l c10 c32 c33 c35 c36 c37 fz c38 c39 c40
  obtain ⟨l, c10, c32, c33, c35, c36, c37, fz⟩ := id (HG2.out.1.at_)
  have c38 := HG2.out.1.c38
  have c39 := HG2.out.1.c39
  have c40 := HG2.out.1.c40
  dsimp only
  go_wp2_with fail
  refine bodyPost_ret (results_none rfl _ _ _) rfl ?_
  exact ⟨rfl, HG2.out.set39 19⟩
set_option maxRecDepth 100000 in
set_option maxHeartbeats 8000000 in
theorem nx_61 {w0 w : World} {g : Nat} {s : ByteArray} {C : Nat → Option Value} {p st : Nat} {u k f : Int} (h : Pl w0 w g s C p st u k f) (hp : p ≤ s.size) (hs : s.size ≤ 1048576) (hst : st ≤ p) (hc : cpOf s p = 61) :
    Calls Tryd.prog 63 #[.pointer (some ⟨g, 0, none⟩)] w fun e w' => e = .returned (.tuple #[]) ∧ Go2 w0 w w' g s C (p + 1) p 0 18 0 := by
  have HC := Lib.hid hc
  have hsum : (st : Int) + ((p : Int) - (st : Int)) = (p : Int) := by omega
  have HN := Lib.hid (en58 st ((p : Int) - st) (by omega) (by omega) (by omega))
  rw [hsum] at HN
  have H0 := Lib.hid h.go
  obtain ⟨l, c10, c32, c33, c35, c36, c37, fz⟩ := id h.at_
  have c38 := h.c38
  have c39 := h.c39
  have c40 := h.c40
  clear hsum h
  go_enter Tryd.func63, Tryd.ntmps63
  go_wp2_with fail
  refine wp_loop_rounds 1 ?_
  rw [rounds_succ]
  go_upto_block 2 with (go_at_call 58; refine (HN.out _).mono ?_; rintro e w1 ⟨rfl, be⟩; have HG1 := Lib.hid (H0.out.keep be); obtain ⟨l', d10, d32, d33, d35, d36, d37, fz'⟩ := id HG1.out.1.at_; have d38 := HG1.out.1.c38; have d39 := HG1.out.1.c39; have d40 := HG1.out.1.c40; clear be)
  have HG := Lib.hid (rst_go HG1.out)
  clear l c10 c32 c33 c35 c36 c37 fz c38 c39 c40 l' d10 d32 d33 d35 d36 d37 fz' d38 d39 d40 HG1
  unfold rst at HG
  obtain ⟨W, hW⟩ : ∃ W, ((((w1.setCell ⟨g, 36, none⟩ (.int .i32 p)).setCell ⟨g, 37, none⟩ (.int .i32 0)).setCell ⟨g, 38, none⟩ (.int .u16 0)).setCell ⟨g, 39, none⟩ (.int .u8 0)).setCell ⟨g, 40, none⟩ (.int .u8 0) = W := ⟨_, rfl⟩
  rw [hW] at HG ⊢
  clear hW
  obtain ⟨l, c10, c32, c33, c35, c36, c37, fz⟩ := id (HG.out.1.at_)
  have c38 := HG.out.1.c38
  have c39 := HG.out.1.c39
  have c40 := HG.out.1.c40
  rw [hc] at c35
  clear hc
  go_wp2_with fail
  refine (step_plc HG.out.1 hp 61 HC.out (by omega) (by omega) hs (Nat.le_refl p)).mono ?_
  rintro e w2 ⟨rfl, hg⟩
  have HG2 := Lib.hid (HG.out.trans hg)
  clear hg l c10 c32 c33 c35 c36 c37 fz c38 c39 c40
  obtain ⟨l, c10, c32, c33, c35, c36, c37, fz⟩ := id (HG2.out.1.at_)
  have c38 := HG2.out.1.c38
  have c39 := HG2.out.1.c39
  have c40 := HG2.out.1.c40
  dsimp only
  go_wp2_with fail
  refine bodyPost_ret (results_none rfl _ _ _) rfl ?_
  exact ⟨rfl, HG2.out.set39 18⟩
set_option maxRecDepth 100000 in
set_option maxHeartbeats 8000000 in
theorem nx_94 {w0 w : World} {g : Nat} {s : ByteArray} {C : Nat → Option Value} {p st : Nat} {u k f : Int} (h : Pl w0 w g s C p st u k f) (hp : p ≤ s.size) (hs : s.size ≤ 1048576) (hst : st ≤ p) (hc : cpOf s p = 94) :
    Calls Tryd.prog 63 #[.pointer (some ⟨g, 0, none⟩)] w fun e w' => e = .returned (.tuple #[]) ∧ Go2 w0 w w' g s C (p + 1) p 0 15 0 := by
  have HC := Lib.hid hc
  have hsum : (st : Int) + ((p : Int) - (st : Int)) = (p : Int) := by omega
  have HN := Lib.hid (en58 st ((p : Int) - st) (by omega) (by omega) (by omega))
  rw [hsum] at HN
  have H0 := Lib.hid h.go
  obtain ⟨l, c10, c32, c33, c35, c36, c37, fz⟩ := id h.at_
  have c38 := h.c38
  have c39 := h.c39
  have c40 := h.c40
  clear hsum h
  go_enter Tryd.func63, Tryd.ntmps63
  go_wp2_with fail
  refine wp_loop_rounds 1 ?_
  rw [rounds_succ]
  go_upto_block 2 with (go_at_call 58; refine (HN.out _).mono ?_; rintro e w1 ⟨rfl, be⟩; have HG1 := Lib.hid (H0.out.keep be); obtain ⟨l', d10, d32, d33, d35, d36, d37, fz'⟩ := id HG1.out.1.at_; have d38 := HG1.out.1.c38; have d39 := HG1.out.1.c39; have d40 := HG1.out.1.c40; clear be)
  have HG := Lib.hid (rst_go HG1.out)
  clear l c10 c32 c33 c35 c36 c37 fz c38 c39 c40 l' d10 d32 d33 d35 d36 d37 fz' d38 d39 d40 HG1
  unfold rst at HG
  obtain ⟨W, hW⟩ : ∃ W, ((((w1.setCell ⟨g, 36, none⟩ (.int .i32 p)).setCell ⟨g, 37, none⟩ (.int .i32 0)).setCell ⟨g, 38, none⟩ (.int .u16 0)).setCell ⟨g, 39, none⟩ (.int .u8 0)).setCell ⟨g, 40, none⟩ (.int .u8 0) = W := ⟨_, rfl⟩
  rw [hW] at HG ⊢
  clear hW
  obtain ⟨l, c10, c32, c33, c35, c36, c37, fz⟩ := id (HG.out.1.at_)
  have c38 := HG.out.1.c38
  have c39 := HG.out.1.c39
  have c40 := HG.out.1.c40
  rw [hc] at c35
  clear hc
  go_wp2_with fail
  refine (step_plc HG.out.1 hp 94 HC.out (by omega) (by omega) hs (Nat.le_refl p)).mono ?_
  rintro e w2 ⟨rfl, hg⟩
  have HG2 := Lib.hid (HG.out.trans hg)
  clear hg l c10 c32 c33 c35 c36 c37 fz c38 c39 c40
  obtain ⟨l, c10, c32, c33, c35, c36, c37, fz⟩ := id (HG2.out.1.at_)
  have c38 := HG2.out.1.c38
  have c39 := HG2.out.1.c39
  have c40 := HG2.out.1.c40
  dsimp only
  go_wp2_with fail
  refine bodyPost_ret (results_none rfl _ _ _) rfl ?_
  exact ⟨rfl, HG2.out.set39 15⟩
set_option maxRecDepth 100000 in
set_option maxHeartbeats 8000000 in
theorem nx_36 {w0 w : World} {g : Nat} {s : ByteArray} {C : Nat → Option Value} {p st : Nat} {u k f : Int} (h : Pl w0 w g s C p st u k f) (hp : p ≤ s.size) (hs : s.size ≤ 1048576) (hst : st ≤ p) (hc : cpOf s p = 36) :
    Calls Tryd.prog 63 #[.pointer (some ⟨g, 0, none⟩)] w fun e w' => e = .returned (.tuple #[]) ∧ Go2 w0 w w' g s C (p + 1) p 0 16 0 := by
  have HC := Lib.hid hc
  have hsum : (st : Int) + ((p : Int) - (st : Int)) = (p : Int) := by omega
  have HN := Lib.hid (en58 st ((p : Int) - st) (by omega) (by omega) (by omega))
  rw [hsum] at HN
  have H0 := Lib.hid h.go
  obtain ⟨l, c10, c32, c33, c35, c36, c37, fz⟩ := id h.at_
  have c38 := h.c38
  have c39 := h.c39
  have c40 := h.c40
  clear hsum h
  go_enter Tryd.func63, Tryd.ntmps63
  go_wp2_with fail
  refine wp_loop_rounds 1 ?_
  rw [rounds_succ]
  go_upto_block 2 with (go_at_call 58; refine (HN.out _).mono ?_; rintro e w1 ⟨rfl, be⟩; have HG1 := Lib.hid (H0.out.keep be); obtain ⟨l', d10, d32, d33, d35, d36, d37, fz'⟩ := id HG1.out.1.at_; have d38 := HG1.out.1.c38; have d39 := HG1.out.1.c39; have d40 := HG1.out.1.c40; clear be)
  have HG := Lib.hid (rst_go HG1.out)
  clear l c10 c32 c33 c35 c36 c37 fz c38 c39 c40 l' d10 d32 d33 d35 d36 d37 fz' d38 d39 d40 HG1
  unfold rst at HG
  obtain ⟨W, hW⟩ : ∃ W, ((((w1.setCell ⟨g, 36, none⟩ (.int .i32 p)).setCell ⟨g, 37, none⟩ (.int .i32 0)).setCell ⟨g, 38, none⟩ (.int .u16 0)).setCell ⟨g, 39, none⟩ (.int .u8 0)).setCell ⟨g, 40, none⟩ (.int .u8 0) = W := ⟨_, rfl⟩
  rw [hW] at HG ⊢
  clear hW
  obtain ⟨l, c10, c32, c33, c35, c36, c37, fz⟩ := id (HG.out.1.at_)
  have c38 := HG.out.1.c38
  have c39 := HG.out.1.c39
  have c40 := HG.out.1.c40
  rw [hc] at c35
  clear hc
  go_wp2_with fail
  refine (step_plc HG.out.1 hp 36 HC.out (by omega) (by omega) hs (Nat.le_refl p)).mono ?_
  rintro e w2 ⟨rfl, hg⟩
  have HG2 := Lib.hid (HG.out.trans hg)
  clear hg l c10 c32 c33 c35 c36 c37 fz c38 c39 c40
  obtain ⟨l, c10, c32, c33, c35, c36, c37, fz⟩ := id (HG2.out.1.at_)
  have c38 := HG2.out.1.c38
  have c39 := HG2.out.1.c39
  have c40 := HG2.out.1.c40
  dsimp only
  go_wp2_with fail
  refine bodyPost_ret (results_none rfl _ _ _) rfl ?_
  exact ⟨rfl, HG2.out.set39 16⟩
end Go.Proofs.YtocciemgdikmjaaDoor
