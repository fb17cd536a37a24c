/-
  next, a class of code points at a time.
-/
import Derived.Test.YtocciemgdikmjaaDoorD5
namespace Go.Proofs.YtocciemgdikmjaaDoor
open Go.ChangeShapes Go.WideShapes Go.ChangeAt Go.RowKit
open Go.Lib (decodeN decode_at decodeGo)
set_option linter.unusedVariables false
set_option maxRecDepth 100000 in
set_option maxHeartbeats 8000000 in
theorem nx_ns {w0 w : World} {g : Nat} {s : ByteArray} {C : Nat → Option Value} {p st : Nat} {u k f : Int} (h : Pl w0 w g s C p st u k f) (hp : p ≤ s.size) (hs : s.size ≤ 1048576) (hst : st ≤ p) (hD : Dom s) (hU : NoUrl s) (c : Int) (hc : cpOf s p = c) (hx : c ≠ -1 ∧ c ≠ 47 ∧ c ≠ 32 ∧ c ≠ 9 ∧ c ≠ 10 ∧ c ≠ 13 ∧ c ≠ 12 ∧ c ≠ 34 ∧ c ≠ 39 ∧ c ≠ 35 ∧ c ≠ 40 ∧ c ≠ 41 ∧ c ≠ 91 ∧ c ≠ 93 ∧ c ≠ 123 ∧ c ≠ 125 ∧ c ≠ 44 ∧ c ≠ 58 ∧ c ≠ 59 ∧ c ≠ 43 ∧ c ≠ 46 ∧ c ≠ 45 ∧ c ≠ 60 ∧ c ≠ 64 ∧ c ≠ 92 ∧ c ≠ 48 ∧ c ≠ 49 ∧ c ≠ 50 ∧ c ≠ 51 ∧ c ≠ 52 ∧ c ≠ 53 ∧ c ≠ 54 ∧ c ≠ 55 ∧ c ≠ 56 ∧ c ≠ 57 ∧ c ≠ 62 ∧ c ≠ 126 ∧ c ≠ 38 ∧ c ≠ 42 ∧ c ≠ 124 ∧ c ≠ 33 ∧ c ≠ 61 ∧ c ≠ 94 ∧ c ≠ 36) (hn : nsB c = true) :
    Calls Tryd.prog 63 #[.pointer (some ⟨g, 0, none⟩)] w fun e w' => e = .returned (.tuple #[]) ∧ Go2 w0 w w' g s C (idT s p).e p 0 (idT s p).k 0 := by
  have HC := Lib.hid hc; have HD := Lib.hid hD; have HU := Lib.hid hU; have HNN := Lib.hid hn
  have dm : (c == -1) = false := flsI _ _ (by omega)
  have d47 : (c == 47) = false := flsI _ _ (by omega)
  have d32 : (c == 32) = false := flsI _ _ (by omega)
  have d9 : (c == 9) = false := flsI _ _ (by omega)
  have d10 : (c == 10) = false := flsI _ _ (by omega)
  have d13 : (c == 13) = false := flsI _ _ (by omega)
  have d12 : (c == 12) = false := flsI _ _ (by omega)
  have d34 : (c == 34) = false := flsI _ _ (by omega)
  have d39 : (c == 39) = false := flsI _ _ (by omega)
  have d35 : (c == 35) = false := flsI _ _ (by omega)
  have d40 : (c == 40) = false := flsI _ _ (by omega)
  have d41 : (c == 41) = false := flsI _ _ (by omega)
  have d91 : (c == 91) = false := flsI _ _ (by omega)
  have d93 : (c == 93) = false := flsI _ _ (by omega)
  have d123 : (c == 123) = false := flsI _ _ (by omega)
  have d125 : (c == 125) = false := flsI _ _ (by omega)
  have d44 : (c == 44) = false := flsI _ _ (by omega)
  have d58 : (c == 58) = false := flsI _ _ (by omega)
  have d59 : (c == 59) = false := flsI _ _ (by omega)
  have d43 : (c == 43) = false := flsI _ _ (by omega)
  have d46 : (c == 46) = false := flsI _ _ (by omega)
  have d45 : (c == 45) = false := flsI _ _ (by omega)
  have d60 : (c == 60) = false := flsI _ _ (by omega)
  have d64 : (c == 64) = false := flsI _ _ (by omega)
  have d92 : (c == 92) = false := flsI _ _ (by omega)
  have d48 : (c == 48) = false := flsI _ _ (by omega)
  have d49 : (c == 49) = false := flsI _ _ (by omega)
  have d50 : (c == 50) = false := flsI _ _ (by omega)
  have d51 : (c == 51) = false := flsI _ _ (by omega)
  have d52 : (c == 52) = false := flsI _ _ (by omega)
  have d53 : (c == 53) = false := flsI _ _ (by omega)
  have d54 : (c == 54) = false := flsI _ _ (by omega)
  have d55 : (c == 55) = false := flsI _ _ (by omega)
  have d56 : (c == 56) = false := flsI _ _ (by omega)
  have d57 : (c == 57) = false := flsI _ _ (by omega)
  have d62 : (c == 62) = false := flsI _ _ (by omega)
  have d126 : (c == 126) = false := flsI _ _ (by omega)
  have d38 : (c == 38) = false := flsI _ _ (by omega)
  have d42 : (c == 42) = false := flsI _ _ (by omega)
  have d124 : (c == 124) = false := flsI _ _ (by omega)
  have d33 : (c == 33) = false := flsI _ _ (by omega)
  have d61 : (c == 61) = false := flsI _ _ (by omega)
  have d94 : (c == 94) = false := flsI _ _ (by omega)
  have d36 : (c == 36) = false := flsI _ _ (by omega)
  clear hx hn hD hU
  have hsum : (st : Int) + ((p : Int) - (st : Int)) = (p : Int) := by omega
  have HN := Lib.hid (en58 st ((p : Int) - st) (by omega) (by omega) (by omega))
  rw [hsum] at HN
  have H0 := Lib.hid h.go
  obtain ⟨l, c10, c32, c33, c35, c36, c37, fz⟩ := id h.at_
  have c38 := h.c38
  have c39 := h.c39
  have c40 := h.c40
  clear hsum h
  go_enter Tryd.func63, Tryd.ntmps63
  go_wp2_with fail
  refine wp_loop_rounds 1 ?_
  rw [rounds_succ]
  go_upto_block 2 with (go_at_call 58; refine (HN.out _).mono ?_; rintro e w1 ⟨rfl, be⟩; have HG1 := Lib.hid (H0.out.keep be); obtain ⟨l', d10, d32, d33, d35, d36, d37, fz'⟩ := id HG1.out.1.at_; have d38 := HG1.out.1.c38; have d39 := HG1.out.1.c39; have d40 := HG1.out.1.c40; clear be)
  have HG := Lib.hid (rst_go HG1.out)
  clear l c10 c32 c33 c35 c36 c37 fz c38 c39 c40 l' d10 d32 d33 d35 d36 d37 fz' d38 d39 d40 HG1
  unfold rst at HG
  obtain ⟨W, hW⟩ : ∃ W, ((((w1.setCell ⟨g, 36, none⟩ (.int .i32 p)).setCell ⟨g, 37, none⟩ (.int .i32 0)).setCell ⟨g, 38, none⟩ (.int .u16 0)).setCell ⟨g, 39, none⟩ (.int .u8 0)).setCell ⟨g, 40, none⟩ (.int .u8 0) = W := ⟨_, rfl⟩
  rw [hW] at HG ⊢
  clear hW
  obtain ⟨l, c10, c32, c33, c35, c36, c37, fz⟩ := id (HG.out.1.at_)
  have c38 := HG.out.1.c38
  have c39 := HG.out.1.c39
  have c40 := HG.out.1.c40
  rw [hc] at c35
  clear hc
  go_wp2_with fail
  refine (ns_any _ _).mono ?_
  rintro e w3 ⟨rfl, rfl⟩
  rw [HNN.out]
  dsimp only
  go_wp2_with fail
  refine (cil55 HG.out.1 hp hs HD.out HU.out).mono ?_
  rintro e w6 ⟨rfl, hg⟩
  have HG6 := Lib.hid (HG.out.trans hg)
  clear hg l c10 c32 c33 c35 c36 c37 fz c38 c39 c40
  obtain ⟨l, c10, c32, c33, c35, c36, c37, fz⟩ := id (HG6.out.1.at_)
  have c38 := HG6.out.1.c38
  have c39 := HG6.out.1.c39
  have c40 := HG6.out.1.c40
  dsimp only
  go_wp2_with fail
  refine bodyPost_ret (results_none rfl _ _ _) rfl ?_
  exact ⟨rfl, HG6.out.set39 _⟩
set_option maxRecDepth 100000 in
set_option maxHeartbeats 8000000 in
theorem nx_ot {w0 w : World} {g : Nat} {s : ByteArray} {C : Nat → Option Value} {p st : Nat} {u k f : Int} (h : Pl w0 w g s C p st u k f) (hp : p ≤ s.size) (hs : s.size ≤ 1048576) (hst : st ≤ p) (hD : Dom s) (hU : NoUrl s) (c : Int) (hc : cpOf s p = c) (hx : c ≠ -1 ∧ c ≠ 47 ∧ c ≠ 32 ∧ c ≠ 9 ∧ c ≠ 10 ∧ c ≠ 13 ∧ c ≠ 12 ∧ c ≠ 34 ∧ c ≠ 39 ∧ c ≠ 35 ∧ c ≠ 40 ∧ c ≠ 41 ∧ c ≠ 91 ∧ c ≠ 93 ∧ c ≠ 123 ∧ c ≠ 125 ∧ c ≠ 44 ∧ c ≠ 58 ∧ c ≠ 59 ∧ c ≠ 43 ∧ c ≠ 46 ∧ c ≠ 45 ∧ c ≠ 60 ∧ c ≠ 64 ∧ c ≠ 92 ∧ c ≠ 48 ∧ c ≠ 49 ∧ c ≠ 50 ∧ c ≠ 51 ∧ c ≠ 52 ∧ c ≠ 53 ∧ c ≠ 54 ∧ c ≠ 55 ∧ c ≠ 56 ∧ c ≠ 57 ∧ c ≠ 62 ∧ c ≠ 126 ∧ c ≠ 38 ∧ c ≠ 42 ∧ c ≠ 124 ∧ c ≠ 33 ∧ c ≠ 61 ∧ c ≠ 94 ∧ c ≠ 36) (hn : nsB c = false) (h0 : 0 ≤ c) (h1 : c < 128) :
    Calls Tryd.prog 63 #[.pointer (some ⟨g, 0, none⟩)] w fun e w' => e = .returned (.tuple #[]) ∧ Go2 w0 w w' g s C (p + 1) p 0 11 0 := by
  have HC := Lib.hid hc; have HD := Lib.hid hD; have HU := Lib.hid hU; have HNN := Lib.hid hn
  have HC0 := Lib.hid (And.intro h0 h1)
  have dm : (c == -1) = false := flsI _ _ (by omega)
  have d47 : (c == 47) = false := flsI _ _ (by omega)
  have d32 : (c == 32) = false := flsI _ _ (by omega)
  have d9 : (c == 9) = false := flsI _ _ (by omega)
  have d10 : (c == 10) = false := flsI _ _ (by omega)
  have d13 : (c == 13) = false := flsI _ _ (by omega)
  have d12 : (c == 12) = false := flsI _ _ (by omega)
  have d34 : (c == 34) = false := flsI _ _ (by omega)
  have d39 : (c == 39) = false := flsI _ _ (by omega)
  have d35 : (c == 35) = false := flsI _ _ (by omega)
  have d40 : (c == 40) = false := flsI _ _ (by omega)
  have d41 : (c == 41) = false := flsI _ _ (by omega)
  have d91 : (c == 91) = false := flsI _ _ (by omega)
  have d93 : (c == 93) = false := flsI _ _ (by omega)
  have d123 : (c == 123) = false := flsI _ _ (by omega)
  have d125 : (c == 125) = false := flsI _ _ (by omega)
  have d44 : (c == 44) = false := flsI _ _ (by omega)
  have d58 : (c == 58) = false := flsI _ _ (by omega)
  have d59 : (c == 59) = false := flsI _ _ (by omega)
  have d43 : (c == 43) = false := flsI _ _ (by omega)
  have d46 : (c == 46) = false := flsI _ _ (by omega)
  have d45 : (c == 45) = false := flsI _ _ (by omega)
  have d60 : (c == 60) = false := flsI _ _ (by omega)
  have d64 : (c == 64) = false := flsI _ _ (by omega)
  have d92 : (c == 92) = false := flsI _ _ (by omega)
  have d48 : (c == 48) = false := flsI _ _ (by omega)
  have d49 : (c == 49) = false := flsI _ _ (by omega)
  have d50 : (c == 50) = false := flsI _ _ (by omega)
  have d51 : (c == 51) = false := flsI _ _ (by omega)
  have d52 : (c == 52) = false := flsI _ _ (by omega)
  have d53 : (c == 53) = false := flsI _ _ (by omega)
  have d54 : (c == 54) = false := flsI _ _ (by omega)
  have d55 : (c == 55) = false := flsI _ _ (by omega)
  have d56 : (c == 56) = false := flsI _ _ (by omega)
  have d57 : (c == 57) = false := flsI _ _ (by omega)
  have d62 : (c == 62) = false := flsI _ _ (by omega)
  have d126 : (c == 126) = false := flsI _ _ (by omega)
  have d38 : (c == 38) = false := flsI _ _ (by omega)
  have d42 : (c == 42) = false := flsI _ _ (by omega)
  have d124 : (c == 124) = false := flsI _ _ (by omega)
  have d33 : (c == 33) = false := flsI _ _ (by omega)
  have d61 : (c == 61) = false := flsI _ _ (by omega)
  have d94 : (c == 94) = false := flsI _ _ (by omega)
  have d36 : (c == 36) = false := flsI _ _ (by omega)
  clear hx hn hD hU h0 h1
  have hsum : (st : Int) + ((p : Int) - (st : Int)) = (p : Int) := by omega
  have HN := Lib.hid (en58 st ((p : Int) - st) (by omega) (by omega) (by omega))
  rw [hsum] at HN
  have H0 := Lib.hid h.go
  obtain ⟨l, c10, c32, c33, c35, c36, c37, fz⟩ := id h.at_
  have c38 := h.c38
  have c39 := h.c39
  have c40 := h.c40
  clear hsum h
  go_enter Tryd.func63, Tryd.ntmps63
  go_wp2_with fail
  refine wp_loop_rounds 1 ?_
  rw [rounds_succ]
  go_upto_block 2 with (go_at_call 58; refine (HN.out _).mono ?_; rintro e w1 ⟨rfl, be⟩; have HG1 := Lib.hid (H0.out.keep be); obtain ⟨l', d10, d32, d33, d35, d36, d37, fz'⟩ := id HG1.out.1.at_; have d38 := HG1.out.1.c38; have d39 := HG1.out.1.c39; have d40 := HG1.out.1.c40; clear be)
  have HG := Lib.hid (rst_go HG1.out)
  clear l c10 c32 c33 c35 c36 c37 fz c38 c39 c40 l' d10 d32 d33 d35 d36 d37 fz' d38 d39 d40 HG1
  unfold rst at HG
  obtain ⟨W, hW⟩ : ∃ W, ((((w1.setCell ⟨g, 36, none⟩ (.int .i32 p)).setCell ⟨g, 37, none⟩ (.int .i32 0)).setCell ⟨g, 38, none⟩ (.int .u16 0)).setCell ⟨g, 39, none⟩ (.int .u8 0)).setCell ⟨g, 40, none⟩ (.int .u8 0) = W := ⟨_, rfl⟩
  rw [hW] at HG ⊢
  clear hW
  obtain ⟨l, c10, c32, c33, c35, c36, c37, fz⟩ := id (HG.out.1.at_)
  have c38 := HG.out.1.c38
  have c39 := HG.out.1.c39
  have c40 := HG.out.1.c40
  rw [hc] at c35
  clear hc
  go_wp2_with fail
  refine (ns_any _ _).mono ?_
  rintro e w3 ⟨rfl, rfl⟩
  rw [HNN.out]
  dsimp only
  go_wp2_with fail
  refine (step_plc HG.out.1 hp c HC.out HC0.out.1 HC0.out.2 hs (Nat.le_refl p)).mono ?_
  rintro e w2 ⟨rfl, hg⟩
  have HG2 := Lib.hid (HG.out.trans hg)
  clear hg l c10 c32 c33 c35 c36 c37 fz c38 c39 c40
  obtain ⟨l, c10, c32, c33, c35, c36, c37, fz⟩ := id (HG2.out.1.at_)
  have c38 := HG2.out.1.c38
  have c39 := HG2.out.1.c39
  have c40 := HG2.out.1.c40
  dsimp only
  go_wp2_with fail
  refine bodyPost_ret (results_none rfl _ _ _) rfl ?_
  exact ⟨rfl, HG2.out.set39 11⟩
end Go.Proofs.YtocciemgdikmjaaDoor
