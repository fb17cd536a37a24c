/-
  Places in a css text, plainly: code points, widths, name runs, newlines.
-/
import Derived.Test.YtocciemgdikmjaaDoorH1
import Derived.Test.YtocciemgdikmjaaDoorH5
import Derived.Test.YtocciemgdikmjaaDoorC1
namespace Go.Proofs.YtocciemgdikmjaaDoor
open Go.Lib (decodeN decode_at decodeGo)
set_option linter.unusedVariables false
theorem byt_at (s : ByteArray) (i : Nat) (h : i < s.size) : (s[i]'h).toNat = byt s i := by
  have e1 : s.get! i = s[i]'h := by
    simp only [ByteArray.get!, ByteArray.getElem_eq_getElem_data]
    exact getElem!_pos s.data i (by simpa using h)
  unfold byt; rw [e1]
theorem byt_lt (s : ByteArray) (i : Nat) : byt s i < 256 := by
  unfold byt; exact UInt8.toNat_lt _
theorem byt_end (s : ByteArray) (i : Nat) (h : s.size ≤ i) : byt s i = 0 := by
  have e1 : s.get! i = default := by
    simp only [ByteArray.get!]
    exact getElem!_neg s.data i (by simpa using h)
  unfold byt; rw [e1]; rfl
/-- may a name go on with this rune (or byte)? -/
def ncB (c : Int) : Bool := nsB c || decide ((48 ≤ c ∧ c ≤ 57) ∨ c = 45)
theorem ncB_high (c : Int) (h : 128 ≤ c) : ncB c = true := by simp [ncB, nsB, h]
/-- the bytes that a rune takes behind a first byte from 128 on are such bytes too -/
theorem wide (s : ByteArray) (p : Nat) (h : p < s.size) (ha : 128 ≤ (s[p]'h).toNat) (k : Nat) (h1 : 1 ≤ k) (hk : k < (decodeGo (s.extract p s.size)).2) : ∃ h' : p + k < s.size, 128 ≤ (s[p + k]'h').toNat := by
  have hx : (s.extract p s.size).size = s.size - p := by simp
  have ds := dec_size (s.extract p s.size)
  rw [hx] at ds
  have hp : p + k < s.size := by omega
  refine ⟨hp, ?_⟩
  have g (j : Nat) (hj : p + j < s.size) : (s.extract p s.size).get! j = s[p + j]'hj := by
    have h1 : j < (s.extract p s.size).size := by omega
    have e1 : (s.extract p s.size).get! j = (s.extract p s.size)[j]'h1 := by
      simp only [ByteArray.get!, ByteArray.getElem_eq_getElem_data]
      exact getElem!_pos (s.extract p s.size).data j (by simpa using h1)
    rw [e1, ByteArray.getElem_extract]
  rw [← g k hp]
  unfold decodeGo at hk
  rw [if_neg (by omega), decode_at] at hk
  simp only [Nat.sub_zero, Nat.zero_add] at hk
  have e0 : (s.extract p s.size).get! 0 = s[p]'h := by simpa using g 0 (by omega)
  rw [e0] at hk
  generalize (s[p]'h).toNat = b0 at *
  have : k = 1 ∨ k = 2 ∨ k = 3 ∨ 4 ≤ k := by omega
  unfold decodeN at hk
  rcases this with rfl | rfl | rfl | h4
  · repeat' split at hk
    all_goals first | (simp at hk; done) | omega
  · repeat' split at hk
    all_goals first | (simp at hk; done) | omega
  · repeat' split at hk
    all_goals first | (simp at hk; done) | omega
  · repeat' split at hk
    all_goals (simp at hk; omega)
/-- the width of the rune at place p -/
def wid (s : ByteArray) (p : Nat) : Nat := (decodeGo (s.extract p s.size)).2
theorem wid_end (s : ByteArray) : wid s s.size = 0 := by unfold wid; rw [at_end]
theorem wid_asc (s : ByteArray) (p : Nat) (h : p < s.size) (hb : byt s p < 128) : wid s p = 1 := by
  unfold wid; rw [(at_byte s p h).1 (by rw [byt_at]; exact hb)]
theorem wid_pos (s : ByteArray) (p : Nat) (h : p < s.size) : 1 ≤ wid s p := (at_byte s p h).2.2
theorem wid_le (s : ByteArray) (p : Nat) (h : p ≤ s.size) : p + wid s p ≤ s.size := by
  have := dec_size (s.extract p s.size)
  have hx : (s.extract p s.size).size = s.size - p := by simp
  unfold wid; omega
theorem wid_in (s : ByteArray) (p : Nat) (h : p < s.size) (j : Nat) (h1 : p < j) (h2 : j < p + wid s p) : 128 ≤ byt s j := by
  by_cases hb : byt s p < 128
  · rw [wid_asc s p h hb] at h2; omega
  · obtain ⟨h', hw⟩ := wide s p h (by rw [byt_at]; omega) (j - p) (by omega) (by unfold wid at h2; omega)
    have e : p + (j - p) = j := by omega
    rw [byt_at] at hw
    rw [← e]; exact hw
theorem cp_asc (s : ByteArray) (p : Nat) (h : p < s.size) (hb : byt s p < 128) : cpOf s p = (byt s p : Int) := by
  rw [cp_ascii s p h (by rw [byt_at]; exact hb), byt_at]
theorem cp_hi (s : ByteArray) (p : Nat) (h : p < s.size) (hb : 128 ≤ byt s p) : 128 ≤ cpOf s p := cp_high s p h (by rw [byt_at]; exact hb)
/-- a code point below 128 is the byte -/
theorem cp_is (s : ByteArray) (p : Nat) (h : p ≤ s.size) (c : Nat) (hc : c < 128) (e : cpOf s p = (c : Int)) : p < s.size ∧ byt s p = c := by
  by_cases hp : p < s.size
  · refine ⟨hp, ?_⟩
    by_cases hb : byt s p < 128
    · rw [cp_asc s p hp hb] at e; omega
    · have := cp_hi s p hp (by omega); omega
  · obtain rfl : p = s.size := by omega
    rw [cp_end] at e; omega
theorem ns_cp (s : ByteArray) (p : Nat) (h : p < s.size) : nsB (cpOf s p) = nsB (byt s p : Nat) := by
  by_cases hb : byt s p < 128
  · rw [cp_asc s p h hb]
  · have := cp_hi s p h (by omega)
    have h2 : 128 ≤ (byt s p : Int) := by omega
    unfold nsB
    rw [Bool.eq_iff_iff]; simp [this, h2]
theorem nc_cp (s : ByteArray) (p : Nat) (h : p < s.size) : ncB (cpOf s p) = ncB (byt s p : Nat) := by
  unfold ncB
  rw [ns_cp s p h]
  by_cases hb : byt s p < 128
  · rw [cp_asc s p h hb]
  · have := cp_hi s p h (by omega)
    have h2 : nsB (byt s p : Nat) = true := by unfold nsB; simp; omega
    rw [h2]; rfl
theorem nc_end (s : ByteArray) : ncB (cpOf s s.size) = false := by rw [cp_end]; decide
theorem ns_end (s : ByteArray) : nsB (cpOf s s.size) = false := by rw [cp_end]; decide
/-- the number of newlines before place k -/
def cnt (s : ByteArray) : Nat → Nat
  | 0 => 0
  | k + 1 => cnt s k + (if k < s.size ∧ byt s k = 10 then 1 else 0)
theorem cnt_succ (s : ByteArray) (k : Nat) : cnt s (k + 1) = cnt s k + (if k < s.size ∧ byt s k = 10 then 1 else 0) := rfl
theorem cnt_le (s : ByteArray) : ∀ k, cnt s k ≤ k := by
  intro k
  induction k with
  | zero => exact Nat.le_refl _
  | succ k ih => rw [cnt_succ]; split <;> omega
theorem cnt_flat (s : ByteArray) (a : Nat) : ∀ n, (∀ j, a ≤ j → j < a + n → ¬ (j < s.size ∧ byt s j = 10)) → cnt s (a + n) = cnt s a := by
  intro n
  induction n with
  | zero => intro _; rfl
  | succ n ih =>
    intro h
    rw [show a + (n + 1) = (a + n) + 1 by omega, cnt_succ, if_neg (h (a + n) (by omega) (by omega)), Nat.add_zero, ih (fun j h1 h2 => h j h1 (by omega))]
theorem cnt_same (s : ByteArray) (a b : Nat) (hab : a ≤ b) (h : ∀ j, a ≤ j → j < b → ¬ (j < s.size ∧ byt s j = 10)) : cnt s b = cnt s a := by
  have := cnt_flat s a (b - a) (fun j h1 h2 => h j h1 (by omega))
  rw [show a + (b - a) = b by omega] at this; exact this
theorem cnt_one (s : ByteArray) (q : Nat) (h : q ≤ s.size) : cnt s (q + 1) = cnt s q + (if cpOf s q = 10 then 1 else 0) := by
  refine (cnt_succ s q).trans ?_
  by_cases hq : q < s.size
  · by_cases hb : byt s q < 128
    · rw [cp_asc s _ hq hb]
      by_cases h10 : byt s q = 10
      · rw [if_pos ⟨hq, h10⟩, if_pos (by omega)]
      · rw [if_neg (fun hh => h10 hh.2), if_neg (by omega)]
    · have := cp_hi s _ hq (by omega)
      rw [if_neg (by omega), if_neg (by omega)]
  · rw [if_neg (by omega), show q = s.size by omega, cp_end, if_neg (by decide)]
/-- newlines, one rune further -/
theorem cnt_step_q (s : ByteArray) (p q : Nat) (h : p ≤ s.size) (hq : p + wid s p = q) : cnt s (q + 1) = cnt s (p + 1) + (if cpOf s q = 10 then 1 else 0) := by
  by_cases hp : p < s.size
  · have h1 := wid_pos s p hp
    have h2 := wid_le s p h
    have e : cnt s q = cnt s (p + 1) := cnt_same s _ _ (by omega) (fun j a b => by have := wid_in s p hp j (by omega) (by omega); omega)
    rw [cnt_one s q (by omega), e]
  · obtain rfl : p = s.size := by omega
    have h0 := wid_end s
    obtain rfl : q = s.size := by omega
    rw [cp_end, if_neg (by decide)]; exact (Nat.add_zero _).symm
theorem cnt_step (s : ByteArray) (p : Nat) (h : p ≤ s.size) : cnt s (p + wid s p + 1) = cnt s (p + 1) + (if cpOf s (p + wid s p) = 10 then 1 else 0) := cnt_step_q s p _ h rfl
/-- the name's end: byte for byte -/
def nmE (s : ByteArray) (p : Nat) : Nat := run (fun b => ncB (b : Int)) s p
theorem nmE_cp (s : ByteArray) (p : Nat) (h : p ≤ s.size) : nmE s p = if ncB (cpOf s p) = true then nmE s (p + wid s p) else p := by
  by_cases hp : p < s.size
  · rw [nc_cp s p hp]
    by_cases hc : ncB (byt s p : Nat) = true
    · rw [if_pos hc]
      have h1 := wid_pos s p hp
      have h2 := wid_le s p h
      unfold nmE
      refine (run_run _ s p (p + wid s p) h (by omega) ?_).symm
      by_cases hlt : run (fun b => ncB (b : Int)) s p < p + wid s p
      · exfalso
        have hg := run_pos (fun b => ncB (b : Int)) s p hp hc
        have ho := run_out (fun b => ncB (b : Int)) s p h (by omega)
        have hw := wid_in s p hp _ (by omega) hlt
        rw [ncB_high _ (by omega)] at ho; cases ho
      · omega
    · rw [if_neg hc]
      unfold nmE
      exact run_stop _ s p (fun _ => by simpa using hc)
  · obtain rfl : p = s.size := by omega
    rw [nc_end, if_neg (by decide)]
    exact run_stop _ s _ (fun h => by omega)
end Go.Proofs.YtocciemgdikmjaaDoor
