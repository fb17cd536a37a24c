/-
  Where a byte string lies in another one, plainly: by lists. No Go in sight.
-/
import Derived.Laws.RangeAny
namespace Go.Proofs.Ytkhcbbpkppkgjaa
open Go
abbrev L (s : ByteArray) : List UInt8 := s.data.toList
theorem L_len (s : ByteArray) : (L s).length = s.size := by simp only [L, Array.length_toList]; rfl
theorem L_app (s t : ByteArray) : L (s ++ t) = L s ++ L t := by simp [L]
theorem L_get (s : ByteArray) (i : Nat) (h : i < s.size) : (L s)[i]? = some (s[i]'h) := by
  rw [List.getElem?_eq_getElem (by rw [L_len]; exact h)]
  rfl
/-- p stands at place i of s -/
def Occ (s p : ByteArray) (i : Nat) : Prop := L p <+: (L s).drop i
theorem occ_iff (s p : ByteArray) (i : Nat) (hi : i + p.size ≤ s.size) : Occ s p i ↔ ∀ k (h : k < p.size), s[i + k]'(by omega) = p[k]'h := by
  unfold Occ
  rw [List.prefix_iff_getElem?]
  constructor
  · intro h k hk
    have := h k (by rw [L_len]; exact hk)
    rw [List.getElem?_drop, L_get s (i + k) (by omega)] at this
    exact Option.some.inj this
  · intro h k hk
    rw [L_len] at hk
    rw [List.getElem?_drop, L_get s (i + k) (by omega), h k hk]
    rfl
theorem occ_fits (s p : ByteArray) (i : Nat) (hp : 0 < p.size) (h : Occ s p i) : i + p.size ≤ s.size := by
  have := h.length_le
  rw [List.length_drop, L_len, L_len] at this
  omega
theorem infix_occ (s p : ByteArray) : L p <:+: L s ↔ ∃ i, Occ s p i := by
  rw [List.infix_iff_prefix_suffix]
  constructor
  · rintro ⟨t, h1, h2⟩
    rw [List.suffix_iff_eq_drop] at h2
    rw [h2] at h1
    exact ⟨_, h1⟩
  · rintro ⟨i, h⟩
    exact ⟨_, h, List.drop_suffix _ _⟩
theorem decode_wide (s : ByteArray) (pos : Nat) (h : pos < s.size) (ha : 128 ≤ (s[pos]'h).toNat) (k : Nat) (h1 : 1 ≤ k) (hk : k < (Utf8.decode s pos).2) : ∃ h' : pos + k < s.size, 128 ≤ (s[pos + k]'h').toNat := by
  have hn : ¬ (s[pos]'h).toNat < 128 := by omega
  have get (j : Nat) (hj : pos + j < s.size) : s.get! (pos + j) = s[pos + j]'hj := by
    have := get_at s (pos + j) hj
    simpa using this
  have cont (j : Nat) (hj : (decide (pos + j < s.size) && (s.get! (pos + j)).toNat / 64 == 2) = true) : ∃ h' : pos + j < s.size, 128 ≤ (s[pos + j]'h').toNat := by
    simp only [Bool.and_eq_true, decide_eq_true_eq, beq_iff_eq] at hj
    refine ⟨hj.1, ?_⟩
    rw [← get j hj.1]
    omega
  simp only [Utf8.decode, get_at s pos h, hn, if_false] at hk
  split at hk
  · rename_i hc
    simp only [Bool.and_eq_true] at hc
    split at hk
    · obtain rfl : k = 1 := by simp at hk; omega
      exact cont 1 (by simpa using hc.2)
    · simp at hk; omega
  split at hk
  · rename_i hc
    simp only [Bool.and_eq_true] at hc
    split at hk
    · have : k = 1 ∨ k = 2 := by simp at hk; omega
      rcases this with rfl | rfl
      · exact cont 1 (by simpa using hc.1.2)
      · exact cont 2 (by simpa using hc.2)
    · simp at hk; omega
  split at hk
  · rename_i hc
    simp only [Bool.and_eq_true] at hc
    split at hk
    · have : k = 1 ∨ k = 2 ∨ k = 3 := by simp at hk; omega
      rcases this with rfl | rfl | rfl
      · exact cont 1 (by simpa using hc.1.1.2)
      · exact cont 2 (by simpa using hc.1.2)
      · exact cont 3 (by simpa using hc.2)
    · simp at hk; omega
  · simp at hk; omega
theorem width_pos (s : ByteArray) (pos : Nat) (h : pos < s.size) : 1 ≤ (Utf8.decode s pos).2 := by
  by_cases ha : (s[pos]'h).toNat < 128
  · rw [decode_ascii s pos h ha]
    exact Nat.le_refl _
  · exact (decode_high s pos h (by omega)).2
/-- one byte and then p -/
theorem occ_cons (s p : ByteArray) (q : ByteArray) (c : UInt8) (hq : L q = c :: L p) (i : Nat) : Occ s q i ↔ ∃ h : i < s.size, s[i]'h = c ∧ Occ s p (i + 1) := by
  unfold Occ
  rw [hq]
  by_cases h : i < s.size
  · have e : (L s).drop i = s[i]'h :: (L s).drop (i + 1) := by
      rw [List.drop_eq_getElem_cons (by rw [L_len]; exact h)]
      rfl
    rw [e, List.cons_prefix_cons]
    constructor
    · rintro ⟨rfl, h2⟩; exact ⟨h, rfl, h2⟩
    · rintro ⟨_, h1, h2⟩; exact ⟨h1.symm, h2⟩
  · rw [List.drop_eq_nil_of_le (by rw [L_len]; omega)]
    constructor
    · intro h2; simp at h2
    · rintro ⟨h', _⟩; exact absurd h' h
theorem occ_extract (s p : ByteArray) (i : Nat) (hi : i ≤ s.size) : (p.size ≤ (s.extract i s.size).size ∧ (s.extract i s.size).extract 0 p.size = p) ↔ Occ s p i := by
  unfold Occ
  rw [List.prefix_iff_eq_take]
  have e : L (s.extract i s.size) = (L s).drop i := by
    simp only [L, ByteArray.data_extract, Array.toList_extract, List.extract]
    exact List.take_of_length_le (by rw [List.length_drop, L_len]; omega)
  have e2 : L ((s.extract i s.size).extract 0 p.size) = ((L s).drop i).take p.size := by
    rw [← e]
    simp only [L, ByteArray.data_extract, Array.toList_extract, List.extract, Nat.sub_zero, List.drop_zero]
  rw [L_len]
  constructor
  · rintro ⟨_, h2⟩
    rw [← e2, h2]
  · intro h
    have h2 : (s.extract i s.size).extract 0 p.size = p := by
      apply ByteArray.ext
      apply Array.ext'
      exact e2.trans h.symm
    refine ⟨?_, h2⟩
    have := congrArg ByteArray.size h2
    simp at this ⊢
    omega
end Go.Proofs.Ytkhcbbpkppkgjaa
