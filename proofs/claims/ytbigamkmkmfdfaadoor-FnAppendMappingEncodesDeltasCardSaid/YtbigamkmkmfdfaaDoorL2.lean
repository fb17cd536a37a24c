/-
  The small functions of the VLQ laws: zzB64Index, zzScanVLQ, zzHornerBytes, zzSignedFromVLQ, zzCopyBytes.
-/
import Derived.Test.YtbigamkmkmfdfaaDoorL0
namespace Go.Proofs.YtbigamkmkmfdfaaDoor
open Go.ChangeShapes Go.WideShapes Go.ChangeAt Go.RowKit
set_option linter.unusedVariables false
theorem ret_int {a b : Int} (h : a = b) : Ending.returned (.int .i64 a) = .returned (.int .i64 b) := by rw [h]
set_option maxRecDepth 100000 in
set_option maxHeartbeats 2000000 in
theorem bi37 (x : Int) (h0 : 0 ≤ x) (h1 : x < 256) (w : World) : Calls Tryd.prog 37 #[.int .u8 x] w fun e w' => e = .returned (.int .i64 (dgt x)) ∧ w = w' := by
  by_cases a1 : 65 ≤ x ∧ x ≤ 90
  · have HR := Lib.hid (show dgt x = x - 65 by unfold dgt; rw [if_pos a1])
    obtain ⟨b1, b2⟩ := a1
    go_enter Tryd.func37, Tryd.ntmps37
    go_wp2_with fail
    go_ret
    exact ⟨ret_int (by rw [HR.out]), rfl⟩
  by_cases a2 : 97 ≤ x ∧ x ≤ 122
  · have HR := Lib.hid (show dgt x = x - 71 by unfold dgt; rw [if_neg a1, if_pos a2])
    obtain ⟨b1, b2⟩ := a2
    have b3 : ¬ x ≤ 90 := by omega
    have b4 : 65 ≤ x := by omega
    clear a1
    go_enter Tryd.func37, Tryd.ntmps37
    go_wp2_with fail
    go_ret
    exact ⟨ret_int (by rw [HR.out]; omega), rfl⟩
  by_cases a3 : 48 ≤ x ∧ x ≤ 57
  · have HR := Lib.hid (show dgt x = x + 4 by unfold dgt; rw [if_neg a1, if_neg a2, if_pos a3])
    obtain ⟨b1, b2⟩ := a3
    have b3 : ¬ 65 ≤ x := by omega
    have b4 : ¬ 97 ≤ x := by omega
    clear a1 a2
    go_enter Tryd.func37, Tryd.ntmps37
    go_wp2_with fail
    go_ret
    exact ⟨ret_int (by rw [HR.out]; omega), rfl⟩
  by_cases a4 : x = 43
  · subst a4
    clear a1 a2 a3
    go_enter Tryd.func37, Tryd.ntmps37
    go_wp2_with fail
    go_ret
    exact ⟨rfl, rfl⟩
  by_cases a5 : x = 47
  · subst a5
    clear a1 a2 a3
    go_enter Tryd.func37, Tryd.ntmps37
    go_wp2_with fail
    go_ret
    exact ⟨rfl, rfl⟩
  have HR := Lib.hid (show dgt x = -1 by unfold dgt; rw [if_neg a1, if_neg a2, if_neg a3, if_neg a4, if_neg a5])
  have d4 : (x == 43) = false := by simp [a4]
  have d5 : (x == 47) = false := by simp [a5]
  clear a4 a5
  by_cases c1 : 65 ≤ x <;> by_cases c2 : x ≤ 90 <;> by_cases c3 : 97 ≤ x <;> by_cases c4 : x ≤ 122 <;> by_cases c5 : 48 ≤ x <;> by_cases c6 : x ≤ 57 <;> (try (exfalso; omega)) <;>
   (clear a1 a2 a3
    go_enter Tryd.func37, Tryd.ntmps37
    go_wp2_with fail
    go_ret
    exact ⟨ret_int (by rw [HR.out]), rfl⟩)
set_option maxRecDepth 100000 in
theorem sg26 (m : Nat) (hm : m < 68719476736) (w : World) : Calls Tryd.prog 26 #[.int .i64 m] w fun e w' => e = .returned (.int .i64 (sgn m)) ∧ w = w' := by
  by_cases h : m % 2 = 1
  · have HR := Lib.hid (show sgn m = -((m : Int) / 2) by unfold sgn; rw [if_pos h]; omega)
    have d : ((m : Int).tmod 2 == 1) = true := by rw [Int.tmod_eq_emod_of_nonneg (by omega)]; simp; omega
    have e : ((m : Int).tdiv 2) = (m : Int) / 2 := by rw [Int.tdiv_eq_ediv_of_nonneg (by omega)]
    go_enter Tryd.func26, Tryd.ntmps26
    go_wp2_with fail
    go_ret
    exact ⟨ret_int (by rw [HR.out]), rfl⟩
  · have HR := Lib.hid (show sgn m = ((m : Int) / 2) by unfold sgn; rw [if_neg h]; omega)
    have d : ((m : Int).tmod 2 == 1) = false := by rw [Int.tmod_eq_emod_of_nonneg (by omega)]; simp; omega
    have e : ((m : Int).tdiv 2) = (m : Int) / 2 := by rw [Int.tdiv_eq_ediv_of_nonneg (by omega)]
    go_enter Tryd.func26, Tryd.ntmps26
    go_wp2_with fail
    go_ret
    exact ⟨ret_int (by rw [HR.out]), rfl⟩
end Go.Proofs.YtbigamkmkmfdfaaDoor
