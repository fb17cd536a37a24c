/-
  The walks of the small laws of the seat.
-/
import Derived.Test.YtkhedaaaimnikaaA
namespace Go.Proofs.Ytkhedaaaimnikaa
open Go.ChangeShapes Go.WideShapes Go.ChangeAt Go.RowKit
set_option linter.unusedVariables false

theorem FnIsLetterASCIIModel_walk (a0 : Int) (w0 : (Lit.int .u8 a0).wf = true) (w : World) :
    Calls Try.prog 3 #[.int .u8 a0] w fun e w' => e = .returned (.bool true) ∧ Grown w w' := by
  have hb : 0 ≤ a0 ∧ a0 < 256 := by have := bounds_u8 w0; omega
  have ha := alpha_all ⟨a0.toNat, by omega⟩
  have e0 : ((a0.toNat : Nat) : Int) = a0 := by omega
  simp only [e0] at ha
  have HA := Lib.hid ha
  clear ha e0
  go_enter Try.func3, Try.ntmps3
  go_wp2_with fail
  refine (zlet_any _ _).mono ?_
  rintro e w' ⟨rfl, rfl⟩
  go_wp2_with fail
  refine (in_any _ _ _ (by decide)).mono ?_
  rintro e w' ⟨rfl, rfl⟩
  go_wp2_with fail
  go_ret
  exact ⟨ret_bool (by rw [HA.out]; simp), Grown.refl _⟩

theorem upper_all : ∀ n : Fin 256, upB n.val = (letB n.val && (bits BinOp.and .u8 n.val 32 == 0)) := by decide +kernel
theorem FnIsUpperASCIIIsLetterWithCaseBitClear_walk (a0 : Int) (w0 : (Lit.int .u8 a0).wf = true) (w : World) :
    Calls Try.prog 4 #[.int .u8 a0] w fun e w' => e = .returned (.bool true) ∧ Grown w w' := by
  have hb : 0 ≤ a0 ∧ a0 < 256 := by have := bounds_u8 w0; omega
  have ha := upper_all ⟨a0.toNat, by omega⟩
  have e0 : ((a0.toNat : Nat) : Int) = a0 := by omega
  simp only [e0] at ha
  have HA := Lib.hid ha
  clear ha e0
  go_enter Try.func4, Try.ntmps4
  go_wp2_with fail
  refine (zup_any _ _).mono ?_
  rintro e w' ⟨rfl, rfl⟩
  go_wp2_with fail
  refine (zlet_any _ _).mono ?_
  rintro e w' ⟨rfl, rfl⟩
  by_cases hl : letB a0 = true
  · go_wp2_with fail
    go_ret
    exact ⟨ret_bool (by rw [HA.out]; simp [hl]), Grown.refl _⟩
  · have hl' : letB a0 = false := by simpa using hl
    go_wp2_with fail
    go_ret
    exact ⟨ret_bool (by rw [HA.out]; simp [hl']), Grown.refl _⟩
