/-
  The small alphabet of FnNextMatchesTokenModelOnSmallAlphabet: its model's tokens are the plain tokens.
-/
import Derived.Test.YtocciemgdikmjaaDoorC4
namespace Go.Proofs.YtocciemgdikmjaaDoor
open Go.Lib (decodeN decode_at decodeGo)
set_option linter.unusedVariables false
def letC (b : Nat) : Bool := decide ((97 ≤ b ∧ b ≤ 122) ∨ (65 ≤ b ∧ b ≤ 90) ∨ b = 95)
def smB (b : Nat) : Bool := wsC b || letC b || decide (b = 35) || decide (b = 64) || (punK b).isSome
def Small (s : ByteArray) : Prop := ∀ i, i < s.size → smB (byt s i) = true
/-- the model's token -/
def mtok (s : ByteArray) (p : Nat) : Tok :=
  if s.size ≤ p then ⟨0, p, 0, 0⟩
  else if wsC (byt s p) = true then ⟨38, run wsC s p, 0, 0⟩
  else if letC (byt s p) = true then (if byt s (run letC s p) = 40 then ⟨27, run letC s p + 1, 0, 0⟩ else ⟨29, run letC s p, 0, 0⟩)
  else if byt s p = 35 then (if letC (byt s (p + 1)) = true then ⟨28, run letC s (p + 1), 0, 1⟩ else ⟨11, p + 1, 0, 0⟩)
  else if byt s p = 64 then (if letC (byt s (p + 1)) = true then ⟨1, run letC s (p + 1), 0, 0⟩ else ⟨11, p + 1, 0, 0⟩)
  else match punK (byt s p) with
  | some k => ⟨k, p + 1, 0, 0⟩
  | none => ⟨11, p + 1, 0, 0⟩
theorem punK_no (b : Nat) (h : letC b = true ∨ b = 35 ∨ b = 64 ∨ b = 0 ∨ 128 ≤ b ∨ (48 ≤ b ∧ b ≤ 57) ∨ b = 45) : punK b = none := by
  have h' : (97 ≤ b ∧ b ≤ 122) ∨ (65 ≤ b ∧ b ≤ 90) ∨ b = 95 ∨ b = 35 ∨ b = 64 ∨ b = 0 ∨ 128 ≤ b ∨ (48 ≤ b ∧ b ≤ 57) ∨ b = 45 := by
    rcases h with h | h
    · unfold letC at h; simp at h; omega
    · omega
  unfold punK
  repeat rw [if_neg (by omega)]
theorem sm_nc (b : Nat) (h : smB b = true) : ncB (b : Int) = letC b := by
  have e : ncB (b : Int) = decide ((97 ≤ b ∧ b ≤ 122) ∨ (65 ≤ b ∧ b ≤ 90) ∨ b = 95 ∨ b = 0 ∨ 128 ≤ b ∨ (48 ≤ b ∧ b ≤ 57) ∨ b = 45) := by
    unfold ncB nsB; rw [Bool.eq_iff_iff]; simp; omega
  rw [e]
  by_cases hl : letC b = true
  · rw [hl]; unfold letC at hl; simp at hl; exact decide_eq_true (by omega)
  · have hl' : letC b = false := by simpa using hl
    rw [hl']
    refine decide_eq_false (fun hc => ?_)
    have hc2 : b = 0 ∨ 128 ≤ b ∨ (48 ≤ b ∧ b ≤ 57) ∨ b = 45 := by
      unfold letC at hl; simp at hl; omega
    have hp := punK_no b (by omega)
    unfold smB at h
    rw [hl', hp] at h
    have hw : wsC b = false := by unfold wsC; simp; omega
    rw [hw] at h
    simp at h; omega
theorem sm_byte (b : Nat) (h : smB b = true) : b ≠ 47 ∧ b ≠ 92 ∧ b ≠ 34 ∧ b ≠ 39 ∧ b ≠ 43 ∧ b ≠ 45 ∧ b ≠ 46 ∧ b ≠ 60 ∧ ¬ (48 ≤ b ∧ b ≤ 57) := by
  refine ⟨?_, ?_, ?_, ?_, ?_, ?_, ?_, ?_, ?_⟩
  all_goals first
    | (rintro rfl; revert h; decide)
    | skip
  rintro ⟨h1, h2⟩
  have hp := punK_no b (by omega)
  have hl : letC b = false := by unfold letC; simp; omega
  have hw : wsC b = false := by unfold wsC; simp; omega
  unfold smB at h
  rw [hl, hp, hw] at h
  simp at h; omega
theorem Small.dom {s : ByteArray} (h : Small s) : Dom s := fun i hi => by
  have := sm_byte _ (h i hi); omega
theorem run_congr (f g : Nat → Bool) (s : ByteArray) (i : Nat) (hi : i ≤ s.size) (h : ∀ j, j < s.size → f (byt s j) = g (byt s j)) : run f s i = run g s i :=
  run_is f s i (run g s i) (run_ge g s i hi) (run_le g s i hi) (fun j a b => by
    have := run_le g s i hi
    rw [h j (by omega)]; exact run_inn g s i hi j a b) (fun hl => by rw [h _ hl]; exact run_out g s i hi hl)
theorem sm_nmE {s : ByteArray} (h : Small s) (p : Nat) (hp : p ≤ s.size) : nmE s p = run letC s p :=
  run_congr _ _ s p hp (fun j hj => sm_nc _ (h j hj))
theorem sm_ns (b : Nat) (h : smB b = true) : nsB (b : Int) = letC b := by
  have h1 := sm_nc b h
  have h2 := sm_byte b h
  unfold ncB at h1
  have e : decide ((48 ≤ (b : Int) ∧ (b : Int) ≤ 57) ∨ (b : Int) = 45) = false := decide_eq_false (by omega)
  rw [e, Bool.or_false] at h1
  exact h1
theorem letC_end (s : ByteArray) (p : Nat) (h : s.size ≤ p) : letC (byt s p) = false := by rw [byt_end s p h]; decide
theorem sm_wsl {s : ByteArray} (h : Small s) (p : Nat) (hp : p ≤ s.size) : wslA s p = letC (byt s p) := by
  by_cases hq : p < s.size
  · have hn : nsB (cpOf s p) = letC (byt s p) := by rw [ns_cp s p hq]; exact sm_ns _ (h p hq)
    unfold wslA wslB
    cases hl : letC (byt s p) with
    | true => rw [hn, hl]; simp
    | false =>
      rw [hn, hl, if_neg (by simp)]
      have h45 : cpOf s p ≠ 45 := fun e => by
        have := cp_is s p hp 45 (by omega) e
        have h2 := sm_byte _ (h p hq); omega
      rw [if_neg h45]
      exact ive_no h.dom p _ hp
  · obtain rfl : p = s.size := by omega
    rw [letC_end s _ (Nat.le_refl _)]
    unfold wslA wslB
    rw [ns_end, if_neg (by simp), cp_end, if_neg (by decide)]; rfl
theorem sm_ncp {s : ByteArray} (h : Small s) (p : Nat) (hp : p ≤ s.size) : ncB (cpOf s p) = letC (byt s p) := by
  by_cases hq : p < s.size
  · rw [nc_cp s p hq]; exact sm_nc _ (h p hq)
  · obtain rfl : p = s.size := by omega
    rw [letC_end s _ (Nat.le_refl _), nc_end]
theorem ws_no (b : Nat) (h : wsC b = true) : letC b = false ∧ b ≠ 35 ∧ b ≠ 64 ∧ b ≤ 32 := by
  have hb : b = 32 ∨ b = 9 ∨ b = 10 ∨ b = 13 ∨ b = 12 := by unfold wsC at h; simpa using h
  refine ⟨?_, by omega, by omega, by omega⟩
  unfold letC; simp; omega
theorem sm_tok {s : ByteArray} (h : Small s) (p : Nat) : mtok s p = tok s p := by
  unfold mtok tok
  by_cases hp : s.size ≤ p
  · rw [if_pos hp, if_pos hp]
  rw [if_neg hp, if_neg hp]
  have hq : p < s.size := by omega
  by_cases hw : wsC (byt s p) = true
  · rw [if_pos hw, if_pos hw]
  rw [if_neg hw, if_neg hw]
  have hb := sm_byte _ (h p hq)
  by_cases hl : letC (byt s p) = true
  · rw [if_pos hl, punK_no _ (Or.inl hl)]
    simp only
    have hl2 : (97 ≤ byt s p ∧ byt s p ≤ 122) ∨ (65 ≤ byt s p ∧ byt s p ≤ 90) ∨ byt s p = 95 := by unfold letC at hl; simpa using hl
    rw [if_neg (show ¬ byt s p = 35 by omega), if_neg (show ¬ byt s p = 64 by omega), if_neg (show ¬ byt s p = 43 by omega), if_neg (show ¬ byt s p = 46 by omega), if_neg (show ¬ byt s p = 45 by omega), if_neg (show ¬ byt s p = 60 by omega), if_neg (show ¬ digC (byt s p) = true by unfold digC; simp; omega)]
    rw [if_pos (show nsB ((byt s p : Nat) : Int) = true by rw [sm_ns _ (h p hq)]; exact hl)]
    unfold idT
    rw [sm_nmE h p (by omega)]
  rw [if_neg hl]
  by_cases h35 : byt s p = 35
  · rw [if_pos h35, punK_no _ (by omega)]
    simp only
    rw [if_pos h35, sm_ncp h (p + 1) (by omega), sm_wsl h (p + 1) (by omega), sm_nmE h (p + 1) (by omega)]
    by_cases hl2 : letC (byt s (p + 1)) = true
    · rw [if_pos hl2, if_pos hl2, if_pos hl2]
    · rw [if_neg hl2, if_neg hl2]
  rw [if_neg h35]
  by_cases h64 : byt s p = 64
  · rw [if_pos h64, punK_no _ (by omega)]
    simp only
    rw [if_neg h35, if_pos h64, sm_wsl h (p + 1) (by omega), sm_nmE h (p + 1) (by omega)]
  rw [if_neg h64]
  cases hk : punK (byt s p) with
  | some k => rfl
  | none =>
    exfalso
    have := h p hq
    unfold smB at this
    rw [hk] at this
    simp at hw hl
    rw [hw, hl] at this
    simp at this; omega
end Go.Proofs.YtocciemgdikmjaaDoor
