/-
  Contracts of the small predicates of css_lexer over the door's seat.
-/
import Derived.Test.YtocciemgdikmjaaDoorShelf
import Derived.Test.YtocciemgdikmjaaDoorRows
import Derived.WalkKit
import Derived.ProofKit
import Derived.OpenShut
import Derived.Lib.Hide
import Derived.Outline
import Derived.WalkLawsBesides
namespace Go.Proofs.YtocciemgdikmjaaDoor
open Go.ChangeShapes Go.WideShapes Go.ChangeAt Go.RowKit
set_option linter.unusedVariables false
theorem ret_bool {a b : Bool} (h : a = b) : Ending.returned (.bool a) = .returned (.bool b) := by rw [h]
def nlB (c : Int) : Bool := decide (c = 10 ∨ c = 13 ∨ c = 12)
theorem nl_any (c : Int) (w : World) : Calls Tryd.prog 75 #[.int .i32 c] w fun e w' => e = .returned (.bool (nlB c)) ∧ w = w' := by
  by_cases h1 : c = 10
  · subst h1; go_enter Tryd.func75, Tryd.ntmps75; go_wp2; go_ret; exact ⟨by simp [nlB], rfl⟩
  by_cases h2 : c = 13
  · subst h2; go_enter Tryd.func75, Tryd.ntmps75; go_wp2; go_ret; exact ⟨by simp [nlB], rfl⟩
  by_cases h3 : c = 12
  · subst h3; go_enter Tryd.func75, Tryd.ntmps75; go_wp2; go_ret; exact ⟨by simp [nlB], rfl⟩
  have h1' : (c == 10) = false := by simp [h1]
  have h2' : (c == 13) = false := by simp [h2]
  have h3' : (c == 12) = false := by simp [h3]
  go_enter Tryd.func75, Tryd.ntmps75; go_wp2; go_ret; exact ⟨by simp [nlB, *], rfl⟩
def nsB (c : Int) : Bool := decide ((97 ≤ c ∧ c ≤ 122) ∨ (65 ≤ c ∧ c ≤ 90) ∨ c = 95 ∨ 128 ≤ c ∨ c = 0)
theorem ns_any (c : Int) (w : World) : Calls Tryd.prog 82 #[.int .i32 c] w fun e w' => e = .returned (.bool (nsB c)) ∧ w = w' := by
  by_cases h5 : c = 95
  · subst h5; go_enter Tryd.func82, Tryd.ntmps82; go_wp2; go_ret; exact ⟨by simp [nsB], rfl⟩
  have h5' : (c == 95) = false := by simp [h5]
  by_cases h6 : c = 0
  · subst h6; go_enter Tryd.func82, Tryd.ntmps82; go_wp2; go_ret; exact ⟨by simp [nsB], rfl⟩
  have h6' : (c == 0) = false := by simp [h6]
  by_cases h1 : 97 ≤ c <;> by_cases h2 : c ≤ 122 <;> by_cases h3 : 65 ≤ c <;> by_cases h4 : c ≤ 90 <;> by_cases h7 : 128 ≤ c <;> (try omega) <;> (go_enter Tryd.func82, Tryd.ntmps82; go_wp2; go_ret; exact ⟨by simp [nsB, *], rfl⟩)
/-- the tables hold in a world behind -/
theorem tabs_below {w w' : World} (hT : Lib.Utf8Tabs 0 1 w) (hb : Below w.heap.size w w') : Lib.Utf8Tabs 0 1 w' := by
  refine ⟨fun c hc => ?_, fun i hi => ?_⟩
  · have h := hT.1 c hc
    rw [hb.cell (block_lt_of_cell h)]; exact h
  · obtain ⟨h1, h2⟩ := hT.2 i hi
    exact ⟨by rw [hb.cell (block_lt_of_cell h1)]; exact h1, by rw [hb.cell (block_lt_of_cell h2)]; exact h2⟩
end Go.Proofs.YtocciemgdikmjaaDoor
