/-
  The small functions of the laws on next: classes of bytes.
-/
import Derived.Test.YtocciemgdikmjaaDoorC5
namespace Go.Proofs.YtocciemgdikmjaaDoor
open Go.ChangeShapes Go.WideShapes Go.ChangeAt Go.RowKit
open Go.Lib (decodeN decode_at decodeGo)
set_option linter.unusedVariables false
theorem wsb60 (c : Nat) (w : World) : Calls Tryd.prog 60 #[.int .u8 c] w fun e w' => e = .returned (.bool (wsC c)) ∧ w = w' := by
  by_cases h : c = 32 ∨ c = 9 ∨ c = 10 ∨ c = 13 ∨ c = 12
  · have e : wsC c = true := by simp [wsC, h]
    rw [e]
    rcases h with rfl | rfl | rfl | rfl | rfl
    all_goals
      go_enter Tryd.func60, Tryd.ntmps60
      go_wp2_with fail
      go_ret
      exact ⟨rfl, rfl⟩
  · have e : wsC c = false := by simp [wsC, h]
    have e1 : ((c : Int) == 32) = false := by rw [beq_eq_false_iff_ne]; omega
    have e2 : ((c : Int) == 9) = false := by rw [beq_eq_false_iff_ne]; omega
    have e3 : ((c : Int) == 10) = false := by rw [beq_eq_false_iff_ne]; omega
    have e4 : ((c : Int) == 13) = false := by rw [beq_eq_false_iff_ne]; omega
    have e5 : ((c : Int) == 12) = false := by rw [beq_eq_false_iff_ne]; omega
    rw [e]
    clear h e
    go_enter Tryd.func60, Tryd.ntmps60
    go_wp2_with fail
    go_ret
    exact ⟨rfl, rfl⟩
theorem let61 (c : Nat) (w : World) : Calls Tryd.prog 61 #[.int .u8 c] w fun e w' => e = .returned (.bool (letC c)) ∧ w = w' := by
  by_cases h5 : c = 95
  · subst h5; go_enter Tryd.func61, Tryd.ntmps61; go_wp2_with fail; go_ret; exact ⟨rfl, rfl⟩
  have h5' : ((c : Int) == 95) = false := by rw [beq_eq_false_iff_ne]; omega
  by_cases h1 : 97 ≤ c <;> by_cases h2 : c ≤ 122 <;> by_cases h3 : 65 ≤ c <;> by_cases h4 : c ≤ 90 <;> (try omega) <;> (have HR := Lib.hid (show letC c = decide ((97 ≤ c ∧ c ≤ 122) ∨ (65 ≤ c ∧ c ≤ 90)) by simp [letC, h5]); clear h5; go_enter Tryd.func61, Tryd.ntmps61; go_wp2_with fail; go_ret; exact ⟨ret_bool (by rw [HR.out]; simp [*]), rfl⟩)
def punV (c : Nat) : Value := .tuple #[.int .u8 ((punK c).getD 0 : Nat), .bool (punK c).isSome]
theorem pk59 (c : Nat) (w : World) : Calls Tryd.prog 59 #[.int .u8 c] w fun e w' => e = .returned (punV c) ∧ w = w' := by
  by_cases h40 : c = 40
  · subst h40
    go_enter Tryd.func59, Tryd.ntmps59
    go_wp2_with fail
    go_ret2
    exact ⟨rfl, rfl⟩
  by_cases h41 : c = 41
  · subst h41
    go_enter Tryd.func59, Tryd.ntmps59
    go_wp2_with fail
    go_ret2
    exact ⟨rfl, rfl⟩
  by_cases h91 : c = 91
  · subst h91
    go_enter Tryd.func59, Tryd.ntmps59
    go_wp2_with fail
    go_ret2
    exact ⟨rfl, rfl⟩
  by_cases h93 : c = 93
  · subst h93
    go_enter Tryd.func59, Tryd.ntmps59
    go_wp2_with fail
    go_ret2
    exact ⟨rfl, rfl⟩
  by_cases h123 : c = 123
  · subst h123
    go_enter Tryd.func59, Tryd.ntmps59
    go_wp2_with fail
    go_ret2
    exact ⟨rfl, rfl⟩
  by_cases h125 : c = 125
  · subst h125
    go_enter Tryd.func59, Tryd.ntmps59
    go_wp2_with fail
    go_ret2
    exact ⟨rfl, rfl⟩
  by_cases h44 : c = 44
  · subst h44
    go_enter Tryd.func59, Tryd.ntmps59
    go_wp2_with fail
    go_ret2
    exact ⟨rfl, rfl⟩
  by_cases h58 : c = 58
  · subst h58
    go_enter Tryd.func59, Tryd.ntmps59
    go_wp2_with fail
    go_ret2
    exact ⟨rfl, rfl⟩
  by_cases h59 : c = 59
  · subst h59
    go_enter Tryd.func59, Tryd.ntmps59
    go_wp2_with fail
    go_ret2
    exact ⟨rfl, rfl⟩
  by_cases h62 : c = 62
  · subst h62
    go_enter Tryd.func59, Tryd.ntmps59
    go_wp2_with fail
    go_ret2
    exact ⟨rfl, rfl⟩
  by_cases h126 : c = 126
  · subst h126
    go_enter Tryd.func59, Tryd.ntmps59
    go_wp2_with fail
    go_ret2
    exact ⟨rfl, rfl⟩
  by_cases h38 : c = 38
  · subst h38
    go_enter Tryd.func59, Tryd.ntmps59
    go_wp2_with fail
    go_ret2
    exact ⟨rfl, rfl⟩
  by_cases h42 : c = 42
  · subst h42
    go_enter Tryd.func59, Tryd.ntmps59
    go_wp2_with fail
    go_ret2
    exact ⟨rfl, rfl⟩
  by_cases h124 : c = 124
  · subst h124
    go_enter Tryd.func59, Tryd.ntmps59
    go_wp2_with fail
    go_ret2
    exact ⟨rfl, rfl⟩
  by_cases h33 : c = 33
  · subst h33
    go_enter Tryd.func59, Tryd.ntmps59
    go_wp2_with fail
    go_ret2
    exact ⟨rfl, rfl⟩
  by_cases h61 : c = 61
  · subst h61
    go_enter Tryd.func59, Tryd.ntmps59
    go_wp2_with fail
    go_ret2
    exact ⟨rfl, rfl⟩
  by_cases h94 : c = 94
  · subst h94
    go_enter Tryd.func59, Tryd.ntmps59
    go_wp2_with fail
    go_ret2
    exact ⟨rfl, rfl⟩
  by_cases h36 : c = 36
  · subst h36
    go_enter Tryd.func59, Tryd.ntmps59
    go_wp2_with fail
    go_ret2
    exact ⟨rfl, rfl⟩
  have e : punV c = .tuple #[.int .u8 0, .bool false] := by
    have : punK c = none := by unfold punK; simp only [if_neg h40, if_neg h41, if_neg h91, if_neg h93, if_neg h123, if_neg h125, if_neg h44, if_neg h58, if_neg h59, if_neg h62, if_neg h126, if_neg h38, if_neg h42, if_neg h124, if_neg h33, if_neg h61, if_neg h94, if_neg h36]
    unfold punV; rw [this]; rfl
  rw [e]
  have d40 : ((c : Int) == 40) = false := by rw [beq_eq_false_iff_ne]; omega
  have d41 : ((c : Int) == 41) = false := by rw [beq_eq_false_iff_ne]; omega
  have d91 : ((c : Int) == 91) = false := by rw [beq_eq_false_iff_ne]; omega
  have d93 : ((c : Int) == 93) = false := by rw [beq_eq_false_iff_ne]; omega
  have d123 : ((c : Int) == 123) = false := by rw [beq_eq_false_iff_ne]; omega
  have d125 : ((c : Int) == 125) = false := by rw [beq_eq_false_iff_ne]; omega
  have d44 : ((c : Int) == 44) = false := by rw [beq_eq_false_iff_ne]; omega
  have d58 : ((c : Int) == 58) = false := by rw [beq_eq_false_iff_ne]; omega
  have d59 : ((c : Int) == 59) = false := by rw [beq_eq_false_iff_ne]; omega
  have d62 : ((c : Int) == 62) = false := by rw [beq_eq_false_iff_ne]; omega
  have d126 : ((c : Int) == 126) = false := by rw [beq_eq_false_iff_ne]; omega
  have d38 : ((c : Int) == 38) = false := by rw [beq_eq_false_iff_ne]; omega
  have d42 : ((c : Int) == 42) = false := by rw [beq_eq_false_iff_ne]; omega
  have d124 : ((c : Int) == 124) = false := by rw [beq_eq_false_iff_ne]; omega
  have d33 : ((c : Int) == 33) = false := by rw [beq_eq_false_iff_ne]; omega
  have d61 : ((c : Int) == 61) = false := by rw [beq_eq_false_iff_ne]; omega
  have d94 : ((c : Int) == 94) = false := by rw [beq_eq_false_iff_ne]; omega
  have d36 : ((c : Int) == 36) = false := by rw [beq_eq_false_iff_ne]; omega
  clear e h40 h41 h91 h93 h123 h125 h44 h58 h59 h62 h126 h38 h42 h124 h33 h61 h94 h36
  go_enter Tryd.func59, Tryd.ntmps59
  go_wp2_with fail
  go_ret2
  exact ⟨rfl, rfl⟩
end Go.Proofs.YtocciemgdikmjaaDoor
