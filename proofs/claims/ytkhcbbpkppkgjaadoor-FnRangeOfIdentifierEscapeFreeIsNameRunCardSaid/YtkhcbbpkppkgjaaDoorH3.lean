/-
  Runs of name bytes, plainly.
-/
import Derived.Test.YtkhcbbpkppkgjaaDoorF3
import Derived.Laws.RangeAny
namespace Go.Proofs.YtkhcbbpkppkgjaaDoor
open Go.Lib (decodeN decode_at decodeGo)
/-- may a name go on with this rune (or byte)? -/
def ncB (c : Int) : Bool := nsB c || decide ((48 ≤ c ∧ c ≤ 57) ∨ c = 45)
theorem ncB_high (c : Int) (h : 128 ≤ c) : ncB c = true := by simp [ncB, nsB, h]
/-- the bytes that a rune takes behind a first byte from 128 on are such bytes too -/
theorem wide (s : ByteArray) (p : Nat) (h : p < s.size) (ha : 128 ≤ (s[p]'h).toNat) (k : Nat) (h1 : 1 ≤ k) (hk : k < (decodeGo (s.extract p s.size)).2) : ∃ h' : p + k < s.size, 128 ≤ (s[p + k]'h').toNat := by
  have hx : (s.extract p s.size).size = s.size - p := by simp
  have ds := dec_size (s.extract p s.size)
  rw [hx] at ds
  have hp : p + k < s.size := by omega
  refine ⟨hp, ?_⟩
  have g (j : Nat) (hj : p + j < s.size) : (s.extract p s.size).get! j = s[p + j]'hj := by
    have h1 : j < (s.extract p s.size).size := by omega
    have e1 : (s.extract p s.size).get! j = (s.extract p s.size)[j]'h1 := by
      simp only [ByteArray.get!, ByteArray.getElem_eq_getElem_data]
      exact getElem!_pos (s.extract p s.size).data j (by simpa using h1)
    rw [e1, ByteArray.getElem_extract]
  rw [← g k hp]
  unfold decodeGo at hk
  rw [if_neg (by omega), decode_at] at hk
  simp only [Nat.sub_zero, Nat.zero_add] at hk
  have e0 : (s.extract p s.size).get! 0 = s[p]'h := by simpa using g 0 (by omega)
  rw [e0] at hk
  generalize (s[p]'h).toNat = b0 at *
  have : k = 1 ∨ k = 2 ∨ k = 3 ∨ 4 ≤ k := by omega
  unfold decodeN at hk
  rcases this with rfl | rfl | rfl | h4
  · repeat' split at hk
    all_goals first | (simp at hk; done) | omega
  · repeat' split at hk
    all_goals first | (simp at hk; done) | omega
  · repeat' split at hk
    all_goals first | (simp at hk; done) | omega
  · repeat' split at hk
    all_goals (simp at hk; omega)
/-- r is the run of name bytes from place f on -/
structure Run (s : ByteArray) (f r : Nat) : Prop where
  fits : f + r ≤ s.size
  all : ∀ k (h : f + k < s.size), k < r → ncB (s[f + k]'h).toNat = true
  stop : ∀ h : f + r < s.size, ncB (s[f + r]'h).toNat = false
/-- one rune further within the run -/
theorem Run.next {s : ByteArray} {f r : Nat} (h : Run s f r) (i : Nat) (hi : i < r) (hr : f + r < s.size) :
    ncB (decodeGo (s.extract (f + i) s.size)).1 = true ∧ 1 ≤ (decodeGo (s.extract (f + i) s.size)).2 ∧ i + (decodeGo (s.extract (f + i) s.size)).2 ≤ r := by
  have hp : f + i < s.size := by omega
  have ha := h.all i hp hi
  by_cases hb : (s[f + i]'hp).toNat < 128
  · rw [(at_byte s (f + i) hp).1 hb]
    exact ⟨ha, Nat.le_refl _, by simp; omega⟩
  · have h1 := (at_byte s (f + i) hp).2.1 (by omega)
    have h2 := (at_byte s (f + i) hp).2.2
    refine ⟨ncB_high _ (by omega), h2, ?_⟩
    by_cases hl : i + (decodeGo (s.extract (f + i) s.size)).2 ≤ r
    · exact hl
    · exfalso
      obtain ⟨h', hw⟩ := wide s (f + i) hp (by omega) (r - i) (by omega) (by omega)
      have hst := h.stop hr
      have e : f + i + (r - i) = f + r := by omega
      simp only [e] at hw
      rw [ncB_high _ (by omega)] at hst
      cases hst
theorem Run.end {s : ByteArray} {f r : Nat} (h : Run s f r) (hr : f + r < s.size) :
    decodeGo (s.extract (f + r) s.size) = ((s[f + r]'hr).toNat, 1) ∧ ncB (s[f + r]'hr).toNat = false := by
  have hst := h.stop hr
  refine ⟨?_, hst⟩
  have hb : (s[f + r]'hr).toNat < 128 := by
    by_cases hb : (s[f + r]'hr).toNat < 128
    · exact hb
    · rw [ncB_high _ (by omega)] at hst; cases hst
  exact (at_byte s (f + r) hr).1 hb
end Go.Proofs.YtkhcbbpkppkgjaaDoor
