/-
  Decoding, plainly.
-/
import Derived.Test.YtocciemgdikmjaaDoorE1
import Derived.Lib.DecodeN
namespace Go.Proofs.YtocciemgdikmjaaDoor
open Go.ChangeShapes Go.WideShapes Go.ChangeAt Go.RowKit
open Go.Lib (decodeN decode_at decodeGo)
set_option linter.unusedVariables false
theorem decodeN_more (n n' b0 b1 b2 b3 b1' b2' b3' : Nat) (h : n ≤ n') (h1 : 1 < n → b1' = b1) (h2 : 2 < n → b2' = b2) (h3 : 3 < n → b3' = b3) (hv : ¬ ((decodeN n b0 b1 b2 b3).1 = 65533 ∧ (decodeN n b0 b1 b2 b3).2 ≤ 1)) :
    decodeN n' b0 b1' b2' b3' = decodeN n b0 b1 b2 b3 := by
  by_cases a0 : b0 < 128
  · unfold decodeN; rw [if_pos a0, if_pos a0]
  by_cases a1 : b0 / 32 = 6 ∧ (1 < n ∧ b1 / 64 = 2)
  · obtain rfl := h1 a1.2.1
    unfold decodeN
    rw [if_neg a0, if_neg a0, if_pos ⟨a1.1, by omega, a1.2.2⟩, if_pos a1]
  by_cases a2 : b0 / 16 = 14 ∧ (1 < n ∧ b1 / 64 = 2) ∧ (2 < n ∧ b2 / 64 = 2)
  · obtain rfl := h1 a2.2.1.1
    obtain rfl := h2 a2.2.2.1
    have n1 : ¬ (b0 / 32 = 6 ∧ (1 < n' ∧ b1' / 64 = 2)) := by omega
    have p2 : b0 / 16 = 14 ∧ (1 < n' ∧ b1' / 64 = 2) ∧ (2 < n' ∧ b2' / 64 = 2) := ⟨a2.1, ⟨by omega, a2.2.1.2⟩, by omega, a2.2.2.2⟩
    unfold decodeN
    rw [if_neg a0, if_neg n1, if_pos p2, if_neg a0, if_neg a1, if_pos a2]
  by_cases a3 : b0 / 8 = 30 ∧ (1 < n ∧ b1 / 64 = 2) ∧ (2 < n ∧ b2 / 64 = 2) ∧ (3 < n ∧ b3 / 64 = 2)
  · obtain rfl := h1 a3.2.1.1
    obtain rfl := h2 a3.2.2.1.1
    obtain rfl := h3 a3.2.2.2.1
    have n1 : ¬ (b0 / 32 = 6 ∧ (1 < n' ∧ b1' / 64 = 2)) := by omega
    have n2 : ¬ (b0 / 16 = 14 ∧ (1 < n' ∧ b1' / 64 = 2) ∧ (2 < n' ∧ b2' / 64 = 2)) := by omega
    have p3 : b0 / 8 = 30 ∧ (1 < n' ∧ b1' / 64 = 2) ∧ (2 < n' ∧ b2' / 64 = 2) ∧ (3 < n' ∧ b3' / 64 = 2) := ⟨a3.1, ⟨by omega, a3.2.1.2⟩, ⟨by omega, a3.2.2.1.2⟩, by omega, a3.2.2.2.2⟩
    unfold decodeN
    rw [if_neg a0, if_neg n1, if_neg n2, if_pos p3, if_neg a0, if_neg a1, if_neg a2, if_pos a3]
  · exfalso
    apply hv
    unfold decodeN
    rw [if_neg a0, if_neg a1, if_neg a2, if_neg a3]
    exact ⟨rfl, Nat.le_refl _⟩
theorem decodeN_four (n n' b0 b1 b2 b3 : Nat) (h : 4 ≤ n) (h' : 4 ≤ n') : decodeN n' b0 b1 b2 b3 = decodeN n b0 b1 b2 b3 := by
  have e1 : (1 < n') = (1 < n) := propext ⟨fun _ => by omega, fun _ => by omega⟩
  have e2 : (2 < n') = (2 < n) := propext ⟨fun _ => by omega, fun _ => by omega⟩
  have e3 : (3 < n') = (3 < n) := propext ⟨fun _ => by omega, fun _ => by omega⟩
  unfold decodeN
  simp only [e1, e2, e3]
def badD (s : ByteArray) : Bool := decide ((decodeGo s).1 = 65533 ∧ (decodeGo s).2 ≤ 1)
theorem get_app (s t : ByteArray) (i : Nat) (h : i < s.size) : (s ++ t).get! i = s.get! i := by
  have h1 : i < (s ++ t).size := by simp; omega
  have e1 : (s ++ t).get! i = (s ++ t)[i]'h1 := by
    simp only [ByteArray.get!, ByteArray.getElem_eq_getElem_data]
    exact getElem!_pos (s ++ t).data i (by simpa using h1)
  have e2 : s.get! i = s[i]'h := by
    simp only [ByteArray.get!, ByteArray.getElem_eq_getElem_data]
    exact getElem!_pos s.data i (by simpa using h)
  rw [e1, e2, ByteArray.getElem_append_left h]
theorem decode_more (s t : ByteArray) (h : badD s = false) : decodeGo (s ++ t) = decodeGo s := by
  have h0 : s.size ≠ 0 := by
    intro h0
    simp [badD, decodeGo, h0] at h
  have hv : ¬ ((decodeGo s).1 = 65533 ∧ (decodeGo s).2 ≤ 1) := by simpa [badD] using h
  unfold decodeGo at *
  rw [if_neg h0] at hv
  rw [if_neg h0, if_neg (by rw [ByteArray.size_append]; omega)]
  rw [decode_at] at hv ⊢
  rw [decode_at s]
  simp only [Nat.sub_zero, Nat.zero_add] at hv ⊢
  rw [get_app s t 0 (by omega)]
  exact decodeN_more _ _ _ _ _ _ _ _ _ (by simp) (fun h => by rw [get_app s t 1 h]) (fun h => by rw [get_app s t 2 h]) (fun h => by rw [get_app s t 3 h]) hv
theorem decode_four (s t : ByteArray) (h : 4 ≤ s.size) : decodeGo (s ++ t) = decodeGo s := by
  unfold decodeGo
  rw [if_neg (by rw [ByteArray.size_append]; omega), if_neg (by omega)]
  rw [decode_at, decode_at s]
  simp only [Nat.sub_zero, Nat.zero_add]
  rw [get_app s t 0 (by omega), get_app s t 1 (by omega), get_app s t 2 (by omega), get_app s t 3 (by omega)]
  exact decodeN_four _ _ _ _ _ _ h (by simp; omega)
theorem decode_ascii (s : ByteArray) (c : Nat) (hc : c < 128) (h : (decodeGo s).1 = c) : (decodeGo s).2 = 1 ∧ 0 < s.size ∧ (s.get! 0).toNat = c := by
  unfold decodeGo at *
  by_cases h0 : s.size = 0
  · rw [if_pos h0] at h
    simp at h; omega
  · rw [if_neg h0] at h ⊢
    rw [decode_at] at h ⊢
    simp only [Nat.sub_zero, Nat.zero_add] at h ⊢
    generalize (s.get! 0).toNat = b0 at *
    generalize (s.get! 1).toNat = b1 at *
    generalize (s.get! 2).toNat = b2 at *
    generalize (s.get! 3).toNat = b3 at *
    by_cases a0 : b0 < 128
    · unfold decodeN at *
      rw [if_pos a0] at h ⊢
      exact ⟨rfl, by omega, h⟩
    · exfalso
      unfold decodeN at h
      rw [if_neg a0] at h
      repeat' split at h
      all_goals (simp at h; omega)
theorem dec_any (s : ByteArray) (w : World) (hT : Lib.Utf8Tabs 0 1 w) (C K : Nat) (hC : (decodeGo s).1 = C) (hK : (decodeGo s).2 = K) :
    Calls Tryd.prog 69 #[.string s] w fun e w' => e = .returned (.tuple #[.int .i32 C, .int .i64 K]) ∧ Below w.heap.size w w' := by
  subst hC hK
  exact Tryd.utf8_DecodeRuneInString s w hT
end Go.Proofs.YtocciemgdikmjaaDoor
