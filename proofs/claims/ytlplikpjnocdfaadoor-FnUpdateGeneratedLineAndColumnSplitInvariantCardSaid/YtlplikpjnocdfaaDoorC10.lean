/-
  The walk of FnUpdateGeneratedLineAndColumnSplitInvariant, as the frame asks for it.
-/
import Derived.Test.YtlplikpjnocdfaaDoorC9
namespace Go.Proofs.YtlplikpjnocdfaaDoor
open Go.ChangeShapes Go.WideShapes Go.ChangeAt Go.RowKit
set_option linter.unusedVariables false
theorem wf_byte (n : Int) (h : (Lit.int .u8 n).wf = true) : 0 ≤ n ∧ n < 256 := by
  simp only [Lit.wf, Bool.and_eq_true, decide_eq_true_eq] at h
  have e1 : IntKind.u8.min = 0 := by decide
  have e2 : IntKind.u8.max = 255 := by decide
  omega
theorem IsRow.allB {w : World} {a : Option Addr} {len cap : Nat} {z : List Int} (h : IsRow .u8 w a len cap z) : AllB (z.take len) ∧ len ≤ maxLen := by
  rcases h with ⟨rfl, rfl, rfl, rfl⟩ | ⟨x, rfl, h1, h2, h3, h4, h5⟩
  · exact ⟨fun i => by simp [List.getD], by simp⟩
  · refine ⟨fun i => ?_, by omega⟩
    by_cases hi : i < len
    · have hiz : i < z.length := by omega
      have e : (z.take len).getD i 0 = z[i] := by simp [List.getD, hi, hiz]
      rw [e]
      exact wf_byte _ (h5 _ (List.getElem_mem hiz))
    · have e : (z.take len).getD i 0 = 0 := by simp [List.getD, List.getElem?_take, hi]
      rw [e]; omega
theorem FnUpdateGeneratedLineAndColumnSplitInvariant_walk (a0 : Option Addr) (len0 cap0 : Nat) (z0 : List Int) (a1 : Int) (a2 : Bool) (w : World) (w0 : IsRow .u8 w a0 len0 cap0 z0) (w1 : (Lit.int .i64 a1).wf = true) (hT : Lib.TabSlice 0 .u8 b64 w) :
    Calls Tryd.prog 4 #[.slice a0 len0 cap0, .int .i64 a1, .bool a2] w fun e w' => e = .returned (.bool true) ∧ Below w.heap.size w w' := by
  obtain ⟨h1, h2⟩ := w0.bytes
  obtain ⟨h3, h4⟩ := w0.allB
  exact core4 w a0 len0 cap0 (z0.take len0) a1 a2 ⟨h1, h3⟩ h2 h4 hT
end Go.Proofs.YtlplikpjnocdfaaDoor
