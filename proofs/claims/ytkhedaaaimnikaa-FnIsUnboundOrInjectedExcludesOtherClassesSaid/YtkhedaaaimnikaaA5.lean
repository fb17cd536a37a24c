/-
  The walks of the small laws (third part): SymbolKind, T.IsAssign, the hex digits.
-/
import Derived.Test.YtkhedaaaimnikaaA4
namespace Go.Proofs.Ytkhedaaaimnikaa
open Go.ChangeShapes Go.WideShapes Go.ChangeAt Go.RowKit
set_option linter.unusedVariables false

theorem FnIsUnboundOrInjectedExcludesOtherClasses_walk (a0 : Int) (w0 : (Lit.int .u8 a0).wf = true) (w : World) :
    Calls Try.prog 8 #[.int .u8 a0] w fun e w' => e = .returned (.bool true) ∧ Grown w w' := by
  by_cases h0 : a0 = 0
  · subst h0; go_enter Try.func8, Try.ntmps8; go_wp2; go_ret; exact ⟨rfl, Grown.refl _⟩
  by_cases h1 : a0 = 23
  · subst h1; go_enter Try.func8, Try.ntmps8; go_wp2; go_ret; exact ⟨rfl, Grown.refl _⟩
  have e0 : (a0 == 0) = false := by simp [h0]
  have e1 : (a0 == 23) = false := by simp [h1]
  have f0 : (a0 != 0) = true := by simp [h0]
  have f1 : (a0 != 23) = true := by simp [h1]
  go_enter Try.func8, Try.ntmps8; go_wp2; go_ret; exact ⟨rfl, Grown.refl _⟩

theorem FnIsAssignExactlyTheSixteenAssignmentTokens_walk (a0 : Int) (w0 : (Lit.int .u8 a0).wf = true) (w : World) :
    Calls Try.prog 9 #[.int .u8 a0] w fun e w' => e = .returned (.bool true) ∧ Grown w w' := by
  by_cases h0 : a0 < 52
  · go_enter Try.func9, Try.ntmps9; go_wp2; go_ret; exact ⟨rfl, Grown.refl _⟩
  by_cases h1 : 67 < a0
  · have h1' : decide (a0 ≤ 67) = false := by simp; omega
    go_enter Try.func9, Try.ntmps9; go_wp2; go_ret; exact ⟨rfl, Grown.refl _⟩
  have h : a0 = 52 ∨ a0 = 53 ∨ a0 = 54 ∨ a0 = 55 ∨ a0 = 56 ∨ a0 = 57 ∨ a0 = 58 ∨ a0 = 59 ∨ a0 = 60 ∨ a0 = 61 ∨ a0 = 62 ∨ a0 = 63 ∨ a0 = 64 ∨ a0 = 65 ∨ a0 = 66 ∨ a0 = 67 := by omega
  clear h0 h1
  rcases h with rfl | rfl | rfl | rfl | rfl | rfl | rfl | rfl | rfl | rfl | rfl | rfl | rfl | rfl | rfl | rfl <;>
    (go_enter Try.func9, Try.ntmps9; go_wp2; go_ret; exact ⟨rfl, Grown.refl _⟩)

abbrev lowS : ByteArray := ⟨#[48, 49, 50, 51, 52, 53, 54, 55, 56, 57, 97, 98, 99, 100, 101, 102]⟩
abbrev uppS : ByteArray := ⟨#[48, 49, 50, 51, 52, 53, 54, 55, 56, 57, 65, 66, 67, 68, 69, 70]⟩
theorem low_all : ∀ n : Nat, (h : n < 16) → hexB (wrap32 (lowS[n]'(h)).toNat) = true ∧ (hexV (wrap32 (lowS[n]'(h)).toNat) == (n : Int)) = true := by decide +kernel
theorem upp_all : ∀ n : Nat, (h : n < 16) → hexB (wrap32 (uppS[n]'(h)).toNat) = true ∧ (hexV (wrap32 (uppS[n]'(h)).toNat) == (n : Int)) = true := by decide +kernel
theorem FnIsHexInvertsDigitEncoding_walk (a0 : Int) (a1 : Bool) (w0 : (Lit.int .i64 a0).wf = true) (w : World) :
    Calls Try.prog 10 #[.int .i64 a0, .bool a1] w fun e w' => e = .returned (.bool true) ∧ Grown w w' := by
  by_cases h0 : a0 < 0
  · go_enter Try.func10, Try.ntmps10; go_wp2; go_ret; exact ⟨rfl, Grown.refl _⟩
  by_cases h1 : 15 < a0
  · go_enter Try.func10, Try.ntmps10; go_wp2; go_ret; exact ⟨rfl, Grown.refl _⟩
  obtain ⟨n, rfl⟩ := Int.eq_ofNat_of_zero_le (by omega : 0 ≤ a0)
  have hn : n < 16 := by omega
  cases a1
  · obtain ⟨hb, hv⟩ := low_all n hn
    go_enter Try.func10, Try.ntmps10
    go_wp2_with (go_at_call 28; refine (zhex2_any _ _).mono ?_; rintro e w' ⟨rfl, rfl⟩)
    go_ret
    exact ⟨rfl, Grown.refl _⟩
  · obtain ⟨hb, hv⟩ := upp_all n hn
    go_enter Try.func10, Try.ntmps10
    go_wp2_with (go_at_call 28; refine (zhex2_any _ _).mono ?_; rintro e w' ⟨rfl, rfl⟩)
    go_ret
    exact ⟨rfl, Grown.refl _⟩
