/-
  zzValidRuneLen_b3 at every byte from 128 on; the case table, plainly.
-/
import Derived.Test.YtkhcbbpkppkgjaaDoorH8P
import Derived.Test.YtkhcbbpkppkgjaaDoorH8Q
import Derived.Test.YtkhcbbpkppkgjaaDoorH8R
import Derived.Test.YtkhcbbpkppkgjaaDoorH8S
namespace Go.Proofs.YtkhcbbpkppkgjaaDoor
open Go.ChangeShapes Go.WideShapes Go.ChangeAt Go.RowKit
open Go.Lib (decodeN decode_at decodeGo)
set_option linter.unusedVariables false
theorem ext_byt (s : ByteArray) (i j : Nat) : ((s.extract i s.size).get! j).toNat = byt s (i + j) := by
  by_cases h : i + j < s.size
  · have h1 : j < (s.extract i s.size).size := by simp; omega
    have e1 : (s.extract i s.size).get! j = (s.extract i s.size)[j]'h1 := by
      simp only [ByteArray.get!, ByteArray.getElem_eq_getElem_data]
      exact getElem!_pos (s.extract i s.size).data j (by simpa using h1)
    rw [e1, ByteArray.getElem_extract, byt_at s (i + j) h]
  · have h1 : ¬ j < (s.extract i s.size).data.size := by
      show ¬ j < (s.extract i s.size).size
      simp; omega
    have h2 : ¬ i + j < s.data.size := h
    have e1 : (s.extract i s.size).get! j = default := getElem!_neg (s.extract i s.size).data j h1
    have e2 : s.get! (i + j) = default := getElem!_neg s.data (i + j) h2
    rw [e1, byt, e2]
theorem bad_at (s : ByteArray) (i : Nat) (hi : i < s.size) : badD (s.extract i s.size) = true ↔ badN (s.size - i) (byt s i) (byt s (i + 1)) (byt s (i + 2)) (byt s (i + 3)) := by
  unfold badD badN decodeGo
  rw [if_neg (by simp; omega), decode_at, decide_eq_true_eq]
  simp only [Nat.sub_zero, Nat.zero_add, ext_byt, Nat.add_zero]
  have e : (s.extract i s.size).size = s.size - i := by simp
  rw [e]
/-- a well-formed rune stands at i, its first byte is from 128 on -/
theorem vrl_any (s : ByteArray) (i : Nat) (hi : i < s.size) (hs : s.size ≤ 1048576) (hb : 128 ≤ (s[i]'hi).toNat) (w : World) :
    Calls Tryd.prog 32 #[.string s, .int .i64 i] w fun e w' => (∃ K : Int, e = .returned (.int .i64 K) ∧ (K = 0 ↔ badD (s.extract i s.size) = true)) ∧ w = w' := by
  obtain ⟨b0, e0⟩ : ∃ b0, (s[i]'hi).toNat = b0 := ⟨_, rfl⟩
  have hlt : (s[i]'hi).toNat < 256 := UInt8.toNat_lt _
  have hb0 : byt s i = b0 := by rw [← byt_at s i hi]; exact e0
  have E0 := Lib.hid e0
  have l1 := byt_lt s (i + 1); have l2 := byt_lt s (i + 2); have l3 := byt_lt s (i + 3)
  have hbad := bad_at s i hi
  rw [hb0] at hbad
  have hbt := hbad
  have fin : ∀ (k lo hh : Nat), (¬ badN (s.size - i) b0 (byt s (i + 1)) (byt s (i + 2)) (byt s (i + 3)) ↔ okSeq k lo hh s i) →
      (Calls Tryd.prog 32 #[.string s, .int .i64 i] w fun e w' => (∃ K : Int, e = .returned (.int .i64 K) ∧ (K = 0 ↔ ¬ okSeq k lo hh s i)) ∧ w = w') →
      Calls Tryd.prog 32 #[.string s, .int .i64 i] w fun e w' => (∃ K : Int, e = .returned (.int .i64 K) ∧ (K = 0 ↔ badD (s.extract i s.size) = true)) ∧ w = w' := by
    intro k lo hh hiff hC
    refine hC.mono ?_
    rintro e w' ⟨⟨K, rfl, hK⟩, rfl⟩
    refine ⟨⟨K, rfl, ?_⟩, rfl⟩
    rw [hK, hbt, ← hiff]
    exact Classical.not_not
  have q1 : ∀ lo hh, okSeq 1 lo hh s i ↔ (1 < s.size - i ∧ lo ≤ byt s (i + 1) ∧ byt s (i + 1) ≤ hh) := fun lo hh => by
    unfold okSeq
    exact ⟨fun ⟨a, b, c⟩ => ⟨a, b⟩, fun ⟨a, b⟩ => ⟨a, b, fun j h1 h2 => by omega⟩⟩
  have q2 : ∀ lo hh, okSeq 2 lo hh s i ↔ (2 < s.size - i ∧ (lo ≤ byt s (i + 1) ∧ byt s (i + 1) ≤ hh) ∧ 128 ≤ byt s (i + 2) ∧ byt s (i + 2) ≤ 191) := fun lo hh => by
    unfold okSeq
    refine ⟨fun ⟨a, b, c⟩ => ⟨a, b, c 2 (by omega) (by omega)⟩, fun ⟨a, b, c⟩ => ⟨a, b, fun j h1 h2 => ?_⟩⟩
    obtain rfl : j = 2 := by omega
    exact c
  have q3 : ∀ lo hh, okSeq 3 lo hh s i ↔ (3 < s.size - i ∧ (lo ≤ byt s (i + 1) ∧ byt s (i + 1) ≤ hh) ∧ (128 ≤ byt s (i + 2) ∧ byt s (i + 2) ≤ 191) ∧ 128 ≤ byt s (i + 3) ∧ byt s (i + 3) ≤ 191) := fun lo hh => by
    unfold okSeq
    refine ⟨fun ⟨a, b, c⟩ => ⟨a, b, c 2 (by omega) (by omega), c 3 (by omega) (by omega)⟩, fun ⟨a, b, c, d⟩ => ⟨a, b, fun j h1 h2 => ?_⟩⟩
    have : j = 2 ∨ j = 3 := by omega
    rcases this with rfl | rfl
    · exact c
    · exact d
  have cases : (128 ≤ b0 ∧ b0 ≤ 193) ∨ (194 ≤ b0 ∧ b0 ≤ 223) ∨ b0 = 224 ∨ (225 ≤ b0 ∧ b0 ≤ 236) ∨ b0 = 237 ∨ b0 = 238 ∨ b0 = 239 ∨ b0 = 240 ∨ (241 ≤ b0 ∧ b0 ≤ 243) ∨ b0 = 244 ∨ (245 ≤ b0 ∧ b0 ≤ 255) := by omega
  have zero : badN (s.size - i) b0 (byt s (i + 1)) (byt s (i + 2)) (byt s (i + 3)) → (Calls Tryd.prog 32 #[.string s, .int .i64 i] w fun e w' => e = .returned (.int .i64 0) ∧ w = w') →
      Calls Tryd.prog 32 #[.string s, .int .i64 i] w fun e w' => (∃ K : Int, e = .returned (.int .i64 K) ∧ (K = 0 ↔ badD (s.extract i s.size) = true)) ∧ w = w' := by
    intro hb hC
    refine hC.mono ?_
    rintro e w' ⟨rfl, rfl⟩
    exact ⟨⟨0, rfl, fun _ => hbt.2 hb, fun _ => rfl⟩, rfl⟩
  rcases cases with h | h | h | h | h | h | h | h | h | h | h
  · exact zero (seq0 _ _ _ _ _ (Or.inl h)) (vrl128 s i hi hs b0 E0 h.1 h.2 w)
  · exact fin 1 128 191 ((seq1 _ _ _ _ _ l1 h).trans (q1 _ _).symm) (vrl194 s i hi hs b0 E0 h.1 h.2 w)
  · exact fin 2 160 191 ((seq2 _ _ _ _ _ _ _ l1 l2 (by omega)).trans (q2 _ _).symm) (vrl224 s i hi hs b0 E0 (by omega) (by omega) w)
  · exact fin 2 128 191 ((seq2 _ _ _ _ _ _ _ l1 l2 (by omega)).trans (q2 _ _).symm) (vrl225 s i hi hs b0 E0 (by omega) (by omega) w)
  · exact fin 2 128 159 ((seq2 _ _ _ _ _ _ _ l1 l2 (by omega)).trans (q2 _ _).symm) (vrl237 s i hi hs b0 E0 (by omega) (by omega) w)
  · exact fin 2 128 191 ((seq2 _ _ _ _ _ _ _ l1 l2 (by omega)).trans (q2 _ _).symm) (vrl238 s i hi hs b0 E0 (by omega) (by omega) w)
  · exact fin 2 128 191 ((seq2 _ _ _ _ _ _ _ l1 l2 (by omega)).trans (q2 _ _).symm) (vrl239 s i hi hs b0 E0 (by omega) (by omega) w)
  · exact fin 3 144 191 ((seq3 _ _ _ _ _ _ _ l1 l2 l3 (by omega)).trans (q3 _ _).symm) (vrl240 s i hi hs b0 E0 (by omega) (by omega) w)
  · exact fin 3 128 191 ((seq3 _ _ _ _ _ _ _ l1 l2 l3 (by omega)).trans (q3 _ _).symm) (vrl241 s i hi hs b0 E0 (by omega) (by omega) w)
  · exact fin 3 128 143 ((seq3 _ _ _ _ _ _ _ l1 l2 l3 (by omega)).trans (q3 _ _).symm) (vrl244 s i hi hs b0 E0 (by omega) (by omega) w)
  · exact zero (seq0 _ _ _ _ _ (Or.inr ⟨h.1, by omega⟩)) (vrl245 s i hi hs b0 E0 h.1 h.2 w)
end Go.Proofs.YtkhcbbpkppkgjaaDoor
