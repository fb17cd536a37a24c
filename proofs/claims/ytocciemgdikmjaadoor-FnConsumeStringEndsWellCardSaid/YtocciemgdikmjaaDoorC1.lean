/-
  The css tokens without comments, escapes, strings and urls, plainly. No Go in sight.
-/
import Derived.Lib.DecodeN
import Derived.WalkKit
namespace Go.Proofs.YtocciemgdikmjaaDoor
open Go.Lib (decodeN decode_at)
/-- a byte of s, or 0 behind its end -/
def byt (s : ByteArray) (i : Nat) : Nat := (s.get! i).toNat
/-- the end of the run of bytes that satisfy f, from i on -/
def runE (f : Nat → Bool) (s : ByteArray) : Nat → Nat → Nat
  | 0, i => i
  | k + 1, i => if i < s.size ∧ f (byt s i) = true then runE f s k (i + 1) else i
def run (f : Nat → Bool) (s : ByteArray) (i : Nat) : Nat := runE f s (s.size - i) i
theorem runE_fuel (f : Nat → Bool) (s : ByteArray) : ∀ k i, s.size ≤ i + k → runE f s k i = run f s i := by
  intro k
  induction k with
  | zero =>
    intro i h
    unfold run
    have : s.size - i = 0 := by omega
    rw [this]
  | succ k ih =>
    intro i h
    by_cases hk : s.size - i = 0
    · unfold run
      rw [hk, runE, runE, if_neg (by omega)]
    · obtain ⟨m, hm⟩ : ∃ m, s.size - i = m + 1 := ⟨s.size - i - 1, by omega⟩
      unfold run
      rw [hm, runE, runE]
      by_cases hc : i < s.size ∧ f (byt s i) = true
      · rw [if_pos hc, if_pos hc, ih (i + 1) (by omega)]
        unfold run
        rw [show s.size - (i + 1) = m by omega]
      · rw [if_neg hc, if_neg hc]
theorem run_go (f : Nat → Bool) (s : ByteArray) (i : Nat) (h : i < s.size) (hf : f (byt s i) = true) : run f s i = run f s (i + 1) := by
  obtain ⟨m, hm⟩ : ∃ m, s.size - i = m + 1 := ⟨s.size - i - 1, by omega⟩
  rw [run, hm, runE, if_pos ⟨h, hf⟩, runE_fuel _ _ _ _ (by omega)]
theorem run_stop (f : Nat → Bool) (s : ByteArray) (i : Nat) (h : i < s.size → f (byt s i) = false) : run f s i = i := by
  unfold run
  cases s.size - i with
  | zero => rfl
  | succ m =>
    rw [runE, if_neg]
    rintro ⟨h1, h2⟩
    rw [h h1] at h2; cases h2
theorem run_spec (f : Nat → Bool) (s : ByteArray) : ∀ k i, i ≤ s.size → s.size ≤ i + k → i ≤ run f s i ∧ run f s i ≤ s.size ∧ (∀ j, i ≤ j → j < run f s i → f (byt s j) = true) ∧ (run f s i < s.size → f (byt s (run f s i)) = false) := by
  intro k
  induction k with
  | zero =>
    intro i h1 h2
    rw [run_stop f s i (fun h => by omega)]
    exact ⟨Nat.le_refl _, h1, fun j a b => by omega, fun h => by omega⟩
  | succ k ih =>
    intro i h1 h2
    by_cases hc : i < s.size ∧ f (byt s i) = true
    · rw [run_go f s i hc.1 hc.2]
      obtain ⟨a, b, c, d⟩ := ih (i + 1) (by omega) (by omega)
      refine ⟨by omega, b, fun j h3 h4 => ?_, d⟩
      by_cases hj : j = i
      · rw [hj]; exact hc.2
      · exact c j (by omega) h4
    · have hst : i < s.size → f (byt s i) = false := fun h => by
        cases hb : f (byt s i) with
        | false => rfl
        | true => exact absurd ⟨h, hb⟩ hc
      rw [run_stop f s i hst]
      exact ⟨Nat.le_refl _, h1, fun j a b => by omega, hst⟩
theorem run_ge (f : Nat → Bool) (s : ByteArray) (i : Nat) (h : i ≤ s.size) : i ≤ run f s i := (run_spec f s (s.size - i) i h (by omega)).1
theorem run_le (f : Nat → Bool) (s : ByteArray) (i : Nat) (h : i ≤ s.size) : run f s i ≤ s.size := (run_spec f s (s.size - i) i h (by omega)).2.1
theorem run_inn (f : Nat → Bool) (s : ByteArray) (i : Nat) (h : i ≤ s.size) (j : Nat) (h1 : i ≤ j) (h2 : j < run f s i) : f (byt s j) = true := (run_spec f s (s.size - i) i h (by omega)).2.2.1 j h1 h2
theorem run_out (f : Nat → Bool) (s : ByteArray) (i : Nat) (h : i ≤ s.size) (h2 : run f s i < s.size) : f (byt s (run f s i)) = false := (run_spec f s (s.size - i) i h (by omega)).2.2.2 h2
/-- a run that is known -/
theorem run_is (f : Nat → Bool) (s : ByteArray) (i e : Nat) (h1 : i ≤ e) (h2 : e ≤ s.size) (h3 : ∀ j, i ≤ j → j < e → f (byt s j) = true) (h4 : e < s.size → f (byt s e) = false) : run f s i = e := by
  have a := run_ge f s i (by omega)
  have b := run_le f s i (by omega)
  rcases Nat.lt_trichotomy (run f s i) e with h | h | h
  · have := run_out f s i (by omega) (by omega)
    rw [h3 _ a h] at this; cases this
  · exact h
  · have := run_inn f s i (by omega) e h1 h
    rw [h4 (by omega)] at this; cases this
theorem run_pos (f : Nat → Bool) (s : ByteArray) (i : Nat) (h : i < s.size) (hf : f (byt s i) = true) : i + 1 ≤ run f s i := by
  rw [run_go f s i h hf]; exact run_ge f s (i + 1) h
theorem run_run (f : Nat → Bool) (s : ByteArray) (i j : Nat) (h : i ≤ s.size) (h1 : i ≤ j) (h2 : j ≤ run f s i) : run f s j = run f s i :=
  run_is f s j (run f s i) h2 (run_le f s i h) (fun k a b => run_inn f s i h k (by omega) b) (run_out f s i h)
end Go.Proofs.YtocciemgdikmjaaDoor
