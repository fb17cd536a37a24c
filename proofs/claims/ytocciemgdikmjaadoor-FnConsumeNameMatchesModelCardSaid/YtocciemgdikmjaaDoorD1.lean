/-
  Small predicates of the css lexer: IsNameContinue, isWhitespace; Range.End.
-/
import Derived.Test.YtocciemgdikmjaaDoorC3
namespace Go.Proofs.YtocciemgdikmjaaDoor
open Go.ChangeShapes Go.WideShapes Go.ChangeAt Go.RowKit
open Go.Lib (decodeN decode_at decodeGo)
set_option linter.unusedVariables false
set_option maxRecDepth 100000 in
set_option maxHeartbeats 2000000 in
theorem nc76 (c : Int) (w : World) : Calls Tryd.prog 76 #[.int .i32 c] w fun e w' => e = .returned (.bool (ncB c)) ∧ w = w' := by
  have H31 := Lib.hid (fun w => ns_any c w)
  cases hn : nsB c
  · rw [hn] at H31
    have HR := Lib.hid (show ncB c = decide ((48 ≤ c ∧ c ≤ 57) ∨ c = 45) by unfold ncB; rw [hn]; rfl)
    clear hn
    by_cases h1 : 48 ≤ c
    · by_cases h2 : c ≤ 57
      · have HR2 := Lib.hid (show ncB c = true by rw [HR.out]; exact decide_eq_true (by omega))
        clear HR
        go_enter Tryd.func76, Tryd.ntmps76
        go_wp2_with fail
        refine (H31.out _).mono ?_
        rintro e w2 ⟨rfl, rfl⟩
        go_wp2_with fail
        go_ret
        exact ⟨ret_bool (by first | exact HR2.out.symm | (rw [HR2.out]; exact decide_eq_false (by omega))), rfl⟩
      · have d : (c == 45) = false := by simp; omega
        have HR2 := Lib.hid (show ncB c = false by rw [HR.out]; exact decide_eq_false (by omega))
        clear HR
        go_enter Tryd.func76, Tryd.ntmps76
        go_wp2_with fail
        refine (H31.out _).mono ?_
        rintro e w2 ⟨rfl, rfl⟩
        go_wp2_with fail
        go_ret
        exact ⟨ret_bool (by first | exact HR2.out.symm | (rw [HR2.out]; exact decide_eq_false (by omega))), rfl⟩
    · by_cases h3 : c = 45
      · subst h3
        have HR2 := Lib.hid (show ncB 45 = true by decide)
        clear HR h1
        go_enter Tryd.func76, Tryd.ntmps76
        go_wp2_with fail
        refine (H31.out _).mono ?_
        rintro e w2 ⟨rfl, rfl⟩
        go_wp2_with fail
        go_ret
        exact ⟨ret_bool (by first | exact HR2.out.symm | (rw [HR2.out]; exact decide_eq_false (by omega))), rfl⟩
      · have d : (c == 45) = false := by simp; omega
        have HR2 := Lib.hid (show ncB c = false by rw [HR.out]; exact decide_eq_false (by omega))
        clear HR
        go_enter Tryd.func76, Tryd.ntmps76
        go_wp2_with fail
        refine (H31.out _).mono ?_
        rintro e w2 ⟨rfl, rfl⟩
        go_wp2_with fail
        go_ret
        exact ⟨ret_bool (by first | exact HR2.out.symm | (rw [HR2.out]; exact decide_eq_false (by omega))), rfl⟩
  · rw [hn] at H31
    have HR := Lib.hid (show ncB c = true by unfold ncB; rw [hn]; rfl)
    clear hn
    go_enter Tryd.func76, Tryd.ntmps76
    go_wp2_with fail
    refine (H31.out _).mono ?_
    rintro e w2 ⟨rfl, rfl⟩
    go_wp2_with fail
    go_ret
    exact ⟨ret_bool HR.out.symm, rfl⟩
def wsI (c : Int) : Bool := decide (c = 32 ∨ c = 9 ∨ c = 10 ∨ c = 13 ∨ c = 12)
theorem wsI_C (b : Nat) : wsI (b : Int) = wsC b := by
  unfold wsI wsC; rw [Bool.eq_iff_iff]; simp; omega
theorem ws70 (c : Int) (w : World) : Calls Tryd.prog 70 #[.int .i32 c] w fun e w' => e = .returned (.bool (wsI c)) ∧ w = w' := by
  by_cases h : c = 32 ∨ c = 9 ∨ c = 10 ∨ c = 13 ∨ c = 12
  · have e : wsI c = true := by simp [wsI, h]
    rw [e]
    rcases h with rfl | rfl | rfl | rfl | rfl
    all_goals
      go_enter Tryd.func70, Tryd.ntmps70
      go_wp2_with fail
      go_ret
      exact ⟨rfl, rfl⟩
  · have e : wsI c = false := by simp [wsI, h]
    have e1 : (c == 32) = false := by rw [beq_eq_false_iff_ne]; omega
    have e2 : (c == 9) = false := by rw [beq_eq_false_iff_ne]; omega
    have e3 : (c == 10) = false := by rw [beq_eq_false_iff_ne]; omega
    have e4 : (c == 13) = false := by rw [beq_eq_false_iff_ne]; omega
    have e5 : (c == 12) = false := by rw [beq_eq_false_iff_ne]; omega
    rw [e]
    clear h e
    go_enter Tryd.func70, Tryd.ntmps70
    go_wp2_with fail
    go_ret
    exact ⟨rfl, rfl⟩
theorem en58 (st ln : Int) (h0 : 0 ≤ st) (h1 : 0 ≤ ln) (h2 : st + ln ≤ 2147483647) (w : World) : Calls Tryd.prog 58 #[.agg #[.int .i32 st, .int .i32 ln]] w fun e w' => e = .returned (.int .i32 (st + ln)) ∧ Below w.heap.size w w' := by
  go_enter Tryd.func58, Tryd.ntmps58
  go_wp2_with fail
  go_ret
  exact ⟨rfl, (Below.refl w.heap.size w).alloc (Nat.le_refl _) _⟩
end Go.Proofs.YtocciemgdikmjaaDoor
