/-
  The walks of the small laws of css_lexer, ast and js_lexer (second part).
-/
import Derived.Test.YtkhedaaaimnikaaA
namespace Go.Proofs.Ytkhedaaaimnikaa
open Go.ChangeShapes Go.WideShapes Go.ChangeAt Go.RowKit
set_option linter.unusedVariables false

theorem shift_all : ∀ n : Fin 64, (bits BinOp.and .u64 (4294953471 / 2 ^ n.val) 1 == 1) = npB n.val := by decide +kernel
theorem npm_any (c : Int) (w0 : (Lit.int .i32 c).wf = true) (w : World) : Calls Try.prog 18 #[.int .i32 c] w fun e w' => e = .returned (.bool (npB c)) ∧ w = w' := by
  have hb := bounds_i32 w0
  by_cases h0 : c < 0
  · go_enter Try.func18, Try.ntmps18; go_wp2; go_ret; exact ⟨ret_bool (by simp [npB]; omega), rfl⟩
  by_cases h1 : c < 64
  · obtain ⟨n, rfl⟩ := Int.eq_ofNat_of_zero_le (by omega : 0 ≤ c)
    have hs := Lib.hid (shift_all ⟨n, by omega⟩)
    go_enter Try.func18, Try.ntmps18; go_wp2; go_ret; exact ⟨ret_bool hs.out, rfl⟩
  · go_enter Try.func18, Try.ntmps18; go_wp2; go_ret; exact ⟨ret_bool (by rw [Bool.eq_iff_iff]; simp [npB]; omega), rfl⟩
theorem FnIsNonPrintableBitmaskModel_walk (a0 : Int) (w0 : (Lit.int .i32 a0).wf = true) (w : World) :
    Calls Try.prog 5 #[.int .i32 a0] w fun e w' => e = .returned (.bool true) ∧ Grown w w' := by
  go_enter Try.func5, Try.ntmps5
  go_wp2_with fail
  refine (znp_any _ _).mono ?_
  rintro e w' ⟨rfl, rfl⟩
  go_wp2_with fail
  refine (npm_any _ w0 _).mono ?_
  rintro e w' ⟨rfl, rfl⟩
  go_wp2_with fail
  go_ret
  exact ⟨ret_bool (by simp), Grown.refl _⟩
theorem FnIsNewlineExactRange_walk (a0 : Int) (w0 : (Lit.int .i32 a0).wf = true) (w : World) :
    Calls Try.prog 6 #[.int .i32 a0] w fun e w' => e = .returned (.bool true) ∧ Grown w w' := by
  by_cases h2 : a0 = 11
  · subst h2
    go_enter Try.func6, Try.ntmps6
    go_wp2_with (go_at_call 19; refine (znl_any _ _).mono ?_; rintro e w' ⟨rfl, rfl⟩)
    go_ret
    exact ⟨ret_bool (by decide), Grown.refl _⟩
  have h2' : (a0 != 11) = true := by simp [h2]
  by_cases h0 : 10 ≤ a0 <;> by_cases h1 : a0 ≤ 13 <;> (try omega) <;>
   (go_enter Try.func6, Try.ntmps6
    go_wp2_with (go_at_call 19; refine (znl_any _ _).mono ?_; rintro e w' ⟨rfl, rfl⟩)
    go_ret
    exact ⟨ret_bool (by simp [nlB]; omega), Grown.refl _⟩)
theorem FnIsWhitespaceNeitherNonPrintableNorName_walk (a0 : Int) (w0 : (Lit.int .i32 a0).wf = true) (w : World) :
    Calls Try.prog 7 #[.int .i32 a0] w fun e w' => e = .returned (.bool true) ∧ Grown w w' := by
  by_cases h : wsB a0 = true
  · have hn : npB a0 = false := by simp [wsB] at h; simp [npB]; omega
    have hc : ncB a0 = false := by simp [wsB] at h; simp [ncB, nsB]; omega
    go_enter Try.func7, Try.ntmps7
    go_wp2_with (first | (go_at_call 20; refine (zws_any _ _).mono ?_; rintro e w' ⟨rfl, rfl⟩) | (go_at_call 17; refine (znp_any _ _).mono ?_; rintro e w' ⟨rfl, rfl⟩) | (go_at_call 21; refine (nc_any _ _).mono ?_; rintro e w' ⟨rfl, rfl⟩))
    go_ret
    exact ⟨rfl, Grown.refl _⟩
  · have h' : wsB a0 = false := by simpa using h
    go_enter Try.func7, Try.ntmps7
    go_wp2_with (first | (go_at_call 20; refine (zws_any _ _).mono ?_; rintro e w' ⟨rfl, rfl⟩))
    go_ret
    exact ⟨rfl, Grown.refl _⟩
def hexV (c : Int) : Int := if 48 ≤ c ∧ c ≤ 57 then c - 48 else if 97 ≤ c ∧ c ≤ 102 then c - 87 else if 65 ≤ c ∧ c ≤ 70 then c - 55 else 0
def hexB (c : Int) : Bool := decide ((48 ≤ c ∧ c ≤ 57) ∨ (97 ≤ c ∧ c ≤ 102) ∨ (65 ≤ c ∧ c ≤ 70))
theorem hex_any (c : Int) (w : World) : Calls Try.prog 37 #[.int .i32 c] w fun e w' => e = .returned (.tuple #[.int .i64 (hexV c), .bool (hexB c)]) ∧ w = w' := by
  by_cases h1 : 48 ≤ c ∧ c ≤ 57
  · obtain ⟨h1, h2⟩ := h1
    have hv : hexV c = c - 48 := by unfold hexV; rw [if_pos ⟨h1, h2⟩]
    have hb : hexB c = true := by simp [hexB]; omega
    have HV := Lib.hid hv; have HB := Lib.hid hb; clear hv hb
    go_enter Try.func37, Try.ntmps37; go_wp2; go_ret2; exact ⟨by rw [HV.out, HB.out]; rfl, rfl⟩
  by_cases h2 : 97 ≤ c ∧ c ≤ 102
  · have hv : hexV c = c + -87 := by unfold hexV; rw [if_neg h1, if_pos h2]; omega
    have hb : hexB c = true := by simp [hexB]; omega
    have HV := Lib.hid hv; have HB := Lib.hid hb; clear hv hb h1
    obtain ⟨h2, h3⟩ := h2
    go_enter Try.func37, Try.ntmps37; go_wp2; go_ret2; exact ⟨by rw [HV.out, HB.out]; rfl, rfl⟩
  by_cases h3 : 65 ≤ c ∧ c ≤ 70
  · have hv : hexV c = c + -55 := by unfold hexV; rw [if_neg h1, if_neg h2, if_pos h3]; omega
    have hb : hexB c = true := by simp [hexB]; omega
    have HV := Lib.hid hv; have HB := Lib.hid hb; clear hv hb h1 h2
    obtain ⟨h2, h3⟩ := h3
    go_enter Try.func37, Try.ntmps37; go_wp2; go_ret2; exact ⟨by rw [HV.out, HB.out]; rfl, rfl⟩
  · have hv : hexV c = 0 := by unfold hexV; rw [if_neg h1, if_neg h2, if_neg h3]
    have hb : hexB c = false := by simp [hexB]; omega
    have HV := Lib.hid hv; have HB := Lib.hid hb; clear hv hb
    by_cases g1 : 48 ≤ c <;> by_cases g2 : c ≤ 57 <;> by_cases g3 : 97 ≤ c <;> by_cases g4 : c ≤ 102 <;> by_cases g5 : 65 ≤ c <;> by_cases g6 : c ≤ 70 <;> (try omega) <;>
      (clear h1 h2 h3; go_enter Try.func37, Try.ntmps37; go_wp2; go_ret2; exact ⟨by rw [HV.out, HB.out]; rfl, rfl⟩)
theorem zhex_any (c : Int) (w : World) : Calls Try.prog 31 #[.int .i32 c] w fun e w' => e = .returned (.tuple #[.int .i64 (hexV c), .bool (hexB c)]) ∧ w = w' := by
  go_enter Try.func31, Try.ntmps31
  go_wp2_with (go_at_call 37; refine (hex_any _ _).mono ?_; rintro e w' ⟨rfl, rfl⟩)
  go_ret2
  exact ⟨rfl, rfl⟩
theorem zhex2_any (c : Int) (w : World) : Calls Try.prog 28 #[.int .i32 c] w fun e w' => e = .returned (.tuple #[.int .i64 (hexV c), .bool (hexB c)]) ∧ w = w' := by
  go_enter Try.func28, Try.ntmps28
  go_wp2_with (go_at_call 37; refine (hex_any _ _).mono ?_; rintro e w' ⟨rfl, rfl⟩)
  go_ret2
  exact ⟨rfl, rfl⟩
theorem FnIsNameContinueCoversStartAndHexExcludesSpace_walk (a0 : Int) (w0 : (Lit.int .i32 a0).wf = true) (w : World) :
    Calls Try.prog 12 #[.int .i32 a0] w fun e w' => e = .returned (.bool true) ∧ Grown w w' := by
  have hsc : nsB a0 = true → ncB a0 = true := by intro h; simp [ncB, h]
  have hxc : hexB a0 = true → ncB a0 = true := by intro h; simp [hexB] at h; simp [ncB, nsB]; omega
  have hwc : wsB a0 = true → ncB a0 = false := by intro h; simp [wsB] at h; simp [ncB, nsB]; omega
  generalize hs : nsB a0 = s at *
  generalize hx : hexB a0 = x at *
  generalize hw : wsB a0 = v at *
  generalize hc : ncB a0 = c at *
  have HS := Lib.hid hs; have HX := Lib.hid hx; have HW := Lib.hid hw; have HC := Lib.hid hc
  clear hs hx hw hc
  cases s <;> cases x <;> cases v <;> cases c <;> (try simp at hsc hxc hwc) <;>
   (go_enter Try.func12, Try.ntmps12
    go_wp2_with (first | (go_at_call 21; refine (nc_any _ _).mono ?_; rw [HC.out]; rintro e w' ⟨rfl, rfl⟩) | (go_at_call 30; refine (ns_any _ _).mono ?_; rw [HS.out]; rintro e w' ⟨rfl, rfl⟩) | (go_at_call 31; refine (zhex_any _ _).mono ?_; rw [HX.out]; rintro e w' ⟨rfl, rfl⟩) | (go_at_call 20; refine (zws_any _ _).mono ?_; rw [HW.out]; rintro e w' ⟨rfl, rfl⟩))
    go_ret
    exact ⟨rfl, Grown.refl _⟩)
