/-
  The walk of FnAppendMappingWithoutRemappingDecodesToDeltas, as the frame asks for it.
-/
import Derived.Test.YtlplikpjnocdfaaDoorB7
namespace Go.Proofs.YtlplikpjnocdfaaDoor
open Go.ChangeShapes Go.WideShapes Go.ChangeAt Go.RowKit
set_option linter.unusedVariables false
theorem wf_i32 (n : Int) (h : (Lit.int .i32 n).wf = true) : -2147483648 ≤ n ∧ n ≤ 2147483647 := by
  simp only [Lit.wf, Bool.and_eq_true, decide_eq_true_eq] at h
  have e1 : IntKind.i32.min = -2147483648 := by decide
  have e2 : IntKind.i32.max = 2147483647 := by decide
  omega
theorem IsRow.i32s {w : World} {a : Option Addr} {len cap : Nat} {z : List Int} (h : IsRow .i32 w a len cap z) : I32s w (.slice a len cap) (z.take len) ∧ (z.take len).length = len ∧ A32 (z.take len) ∧ len ≤ maxLen := by
  rcases h with ⟨rfl, rfl, rfl, rfl⟩ | ⟨x, rfl, h1, h2, h3, h4, h5⟩
  · exact ⟨⟨none, 0, rfl, by simp, fun i hi => absurd hi (by simp)⟩, rfl, fun i => by simp [List.getD], by simp⟩
  · have hl : (z.take len).length = len := by simp; omega
    refine ⟨⟨some x, cap, by rw [hl], by omega, fun i hi => ⟨x, rfl, ?_⟩⟩, hl, fun i => ?_, by omega⟩
    · rw [h4 i (by omega)]
      simp [List.getD, show i < len by omega]
    · by_cases hi : i < len
      · have hiz : i < z.length := by omega
        have e : (z.take len).getD i 0 = z[i] := by simp [List.getD, hi, hiz]
        rw [e]
        exact wf_i32 _ (h5 _ (List.getElem_mem hiz))
      · have e : (z.take len).getD i 0 = 0 := by simp [List.getD, List.getElem?_take, hi]
        rw [e]; omega
/-- what the walk is told of a slice of bools -/
def IsBls (w : World) (a : Option Addr) (len cap : Nat) (Z : Nat → Bool) : Prop := (a = none ∧ len = 0 ∧ cap = 0) ∨ ∃ x, a = some x ∧ len ≤ cap ∧ cap ≤ maxLen ∧ ∀ i, i < cap → w.cell? (x.add i) = some (.bool (Z i))
theorem IsBls.bls {w : World} {a : Option Addr} {len cap : Nat} {Z : Nat → Bool} (h : IsBls w a len cap Z) : Bls w (.slice a len cap) ((List.range len).map Z) ∧ ((List.range len).map Z).length = len ∧ len ≤ maxLen := by
  have hl : ((List.range len).map Z).length = len := by simp
  rcases h with ⟨rfl, rfl, rfl⟩ | ⟨x, rfl, h1, h2, h4⟩
  · exact ⟨⟨none, 0, rfl, by simp, fun i hi => absurd hi (by simp)⟩, rfl, by simp⟩
  · refine ⟨⟨some x, cap, by rw [hl], by omega, fun i hi => ⟨x, rfl, ?_⟩⟩, hl, by omega⟩
    rw [hl] at hi
    rw [h4 i (by omega)]
    simp [List.getD, hi]
theorem FnAppendMappingWithoutRemappingDecodesToDeltas_walk (a0 : Option Addr) (len0 cap0 : Nat) (z0 : List Int) (a1 : Option Addr) (len1 cap1 : Nat) (z1 : List Int) (a2 : Option Addr) (len2 cap2 : Nat) (z2 : List Int) (a3 : Option Addr) (len3 cap3 : Nat) (z3 : List Int) (a4 : Option Addr) (len4 cap4 : Nat) (z4 : List Int) (a5 : Option Addr) (len5 cap5 : Nat) (z5 : Nat → Bool) (w : World)
    (w0 : IsRow .i32 w a0 len0 cap0 z0) (w1 : IsRow .i32 w a1 len1 cap1 z1) (w2 : IsRow .i32 w a2 len2 cap2 z2) (w3 : IsRow .i32 w a3 len3 cap3 z3) (w4 : IsRow .i32 w a4 len4 cap4 z4) (w5 : IsBls w a5 len5 cap5 z5) (hT : Lib.TabSlice 0 .u8 b64 w) :
    Calls Tryd.prog 3 #[.slice a0 len0 cap0, .slice a1 len1 cap1, .slice a2 len2 cap2, .slice a3 len3 cap3, .slice a4 len4 cap4, .slice a5 len5 cap5] w fun e w' => e = .returned (.bool true) ∧ Below w.heap.size w w' := by
  obtain ⟨r0, n0, A0, m0⟩ := w0.i32s
  obtain ⟨r1, n1, A1, m1⟩ := w1.i32s
  obtain ⟨r2, n2, A2, m2⟩ := w2.i32s
  obtain ⟨r3, n3, A3, m3⟩ := w3.i32s
  obtain ⟨r4, n4, A4, m4⟩ := w4.i32s
  obtain ⟨r5, n5, m5⟩ := w5.bls
  exact core3 w a0 a1 a2 a3 a4 a5 len0 cap0 len1 cap1 len2 cap2 len3 cap3 len4 cap4 len5 cap5 _ _ _ _ _ _ r0 r1 r2 r3 r4 r5 n0 n1 n2 n3 n4 n5 A0 A1 A2 A3 A4 m0 m1 m2 m3 m4 m5 hT
end Go.Proofs.YtlplikpjnocdfaaDoor
