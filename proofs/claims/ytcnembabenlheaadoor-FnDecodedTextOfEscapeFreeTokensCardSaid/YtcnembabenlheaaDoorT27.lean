/-
  The strings of FnDecodedTextOfEscapeFreeTokens, plainly.
-/
import Derived.Test.YtcnembabenlheaaDoorT24
namespace Go.Proofs.YtcnembabenlheaaDoor
open Go.Lib (encodeRuneZ encodeRuneZ_length)
set_option linter.unusedVariables false
theorem cutR (p o b c q : ByteArray) (st E : Nat) (h1 : p.size = st) (h2 : st + (o.size + b.size + c.size) = E) : (p ++ o ++ b ++ c ++ q).extract st E = o ++ b ++ c := by
  apply ByteArray.ext_getElem
  · simp [ByteArray.size_extract, ByteArray.size_append]; omega
  · intro i hi hi'
    rw [ByteArray.getElem_extract]
    simp only [ByteArray.size_append] at hi'
    have e1 : p ++ o ++ b ++ c ++ q = p ++ ((o ++ b ++ c) ++ q) := by simp only [ByteArray.append_assoc]
    have k : st + i < (p ++ o ++ b ++ c ++ q).size := by simp only [ByteArray.size_append]; omega
    have e2 : (p ++ o ++ b ++ c ++ q)[st + i]'k = (p ++ ((o ++ b ++ c) ++ q))[st + i]'(by rw [← e1]; exact k) := by congr 1
    rw [e2, ByteArray.getElem_append_right (by omega), ByteArray.getElem_append_left (by simp only [ByteArray.size_append]; omega)]
    congr 1; omega
theorem str_mid (a b c : List Int) (n m : Nat) (hn : n = a.length) (hm : m = a.length + b.length) : (strOfNums (a ++ b ++ c)).extract n m = strOfNums b := by
  subst hn hm
  apply ByteArray.ext
  simp [strOfNums]
theorem sz (xs : List Int) : (strOfNums xs).size = xs.length := strOfNums_size xs
/-- a byte of a part in the middle -/
theorem byt_mid (a b c : List Int) (h : ∀ x ∈ a ++ b ++ c, 0 ≤ x ∧ x < 256) (i : Nat) (hi : i < b.length) : (byt (strOfNums (a ++ b ++ c)) (a.length + i) : Int) = b.getD i 0 := by
  rw [bytN _ h _ (by simp; omega)]
  simp [List.getD, List.getElem?_append_left, List.getElem?_append_right, hi]
theorem url_facts (A M Z : List Int) (hA : ∀ r ∈ A, isW r = true) (hZ : ∀ r ∈ Z, isW r = true) (hMZ : (M = [] ∧ Z = []) ∨ ((∃ m M', M = m :: M' ∧ isW m = false) ∧ ∃ M' m, M = M' ++ [m] ∧ isW m = false)) (R : ByteArray) (hR : strOfNums ([117, 114, 108, 40] ++ encs (A ++ M ++ Z) ++ [41]) = R) (n a m z : Nat) (hn : n = 5 + a + m + z) (ha : A.length = a) (hm : (encs M).length = m) (hz : Z.length = z) :
    R.size = n ∧ byt R (n - 1) = 41 ∧ (∀ i, i < a → isW (byt R (4 + i)) = true) ∧ (∀ i, i < z → isW (byt R (4 + a + m + i)) = true) ∧ (m = 0 → z = 0) ∧ (0 < m → isW (byt R (4 + a)) = false) ∧ (0 < m → isW (byt R (3 + a + m)) = false) ∧ R.extract (4 + a) (4 + a + m) = strOfNums (encs M) := by
  have hE : encs (A ++ M ++ Z) = A ++ encs M ++ Z := by rw [encs_app, encs_app, encs_W A hA, encs_W Z hZ]
  rw [hE] at hR
  have hWb : ∀ r, isW r = true → 0 ≤ r ∧ r < 256 := fun r h => by have := isW_rng r h; omega
  have hall : ∀ x ∈ [117, 114, 108, 40] ++ (A ++ encs M ++ Z) ++ [41], 0 ≤ x ∧ x < (256 : Int) := by
    intro x hx
    simp only [List.mem_append] at hx
    rcases hx with (hx | ((hx | hx) | hx)) | hx
    · simp at hx; omega
    · exact hWb x (hA x hx)
    · exact encs_byte M x hx
    · exact hWb x (hZ x hx)
    · simp at hx; omega
  have g1 : [117, 114, 108, 40] ++ (A ++ encs M ++ Z) ++ [41] = ([117, 114, 108, 40] ++ (A ++ encs M ++ Z)) ++ [41] ++ ([] : List Int) := by simp
  have g2 : [117, 114, 108, 40] ++ (A ++ encs M ++ Z) ++ [41] = [117, 114, 108, 40] ++ A ++ (encs M ++ Z ++ [41]) := by simp
  have g3 : [117, 114, 108, 40] ++ (A ++ encs M ++ Z) ++ [41] = ([117, 114, 108, 40] ++ A) ++ encs M ++ (Z ++ [41]) := by simp
  have g4 : [117, 114, 108, 40] ++ (A ++ encs M ++ Z) ++ [41] = ([117, 114, 108, 40] ++ A ++ encs M) ++ Z ++ [41] := by simp
  have hMat : ∀ i, i < m → (byt R (4 + a + i) : Int) = (encs M).getD i 0 := by
    intro i hi
    have h := byt_mid ([117, 114, 108, 40] ++ A) (encs M) (Z ++ [41]) (by rw [← g3]; exact hall) i (by omega)
    rw [← g3, hR] at h
    rw [← h]; congr 2; simp; omega
  refine ⟨?_, ?_, ?_, ?_, ?_, ?_, ?_, ?_⟩
  · rw [← hR, strOfNums_size]; simp; omega
  · have h := byt_mid ([117, 114, 108, 40] ++ (A ++ encs M ++ Z)) [41] [] (by rw [← g1]; exact hall) 0 (by simp)
    rw [← g1, hR] at h
    have e : ([117, 114, 108, 40] ++ (A ++ encs M ++ Z)).length + 0 = n - 1 := by simp; omega
    rw [e] at h; simp at h; omega
  · intro i hi
    have h := byt_mid [117, 114, 108, 40] A (encs M ++ Z ++ [41]) (by rw [← g2]; exact hall) i (by omega)
    rw [← g2, hR] at h
    have e : ([117, 114, 108, 40] : List Int).length + i = 4 + i := by simp
    rw [e] at h; rw [h]; exact hA _ (getD_mem _ _ (by omega))
  · intro i hi
    have h := byt_mid ([117, 114, 108, 40] ++ A ++ encs M) Z [41] (by rw [← g4]; exact hall) i (by omega)
    rw [← g4, hR] at h
    have e : ([117, 114, 108, 40] ++ A ++ encs M).length + i = 4 + a + m + i := by simp; omega
    rw [e] at h; rw [h]; exact hZ _ (getD_mem _ _ (by omega))
  · intro h0
    rcases hMZ with ⟨_, h⟩ | ⟨⟨x, M', h, _⟩, _⟩
    · rw [← hz, h]; rfl
    · exfalso
      rw [h, encs_cons] at hm
      have := (encodeRuneZ_length x).1
      simp at hm; omega
  · intro hmp
    rcases hMZ with ⟨h, _⟩ | ⟨⟨x, M', h, hx⟩, _⟩
    · rw [h] at hm; simp [encs] at hm; omega
    · have e := hMat 0 hmp
      rw [Nat.add_zero] at e
      rw [e, h, encs_cons]
      have hl := (encodeRuneZ_length x).1
      rw [get_l _ _ 0 (by omega)]
      exact enc_noW x hx _ (getD_mem _ _ (by omega))
  · intro hmp
    rcases hMZ with ⟨h, _⟩ | ⟨_, M', x, h, hx⟩
    · rw [h] at hm; simp [encs] at hm; omega
    · have e := hMat (m - 1) (by omega)
      rw [show 4 + a + (m - 1) = 3 + a + m by omega] at e
      have hl := (encodeRuneZ_length x).1
      have hE2 : encs M = encs M' ++ encodeRuneZ x := by rw [h, encs_app]; simp [encs]
      have hm2 : m = (encs M').length + (encodeRuneZ x).length := by rw [← hm, hE2]; simp
      rw [e, hE2, show m - 1 = (encs M').length + ((encodeRuneZ x).length - 1) by omega]
      have : (encs M' ++ encodeRuneZ x).getD ((encs M').length + ((encodeRuneZ x).length - 1)) 0 = (encodeRuneZ x).getD ((encodeRuneZ x).length - 1) 0 := by
        simp [List.getD, List.getElem?_append_right]
      rw [this]
      exact enc_noW x hx _ (getD_mem _ _ (by omega))
  · rw [← hR, g3]
    exact str_mid _ _ _ _ _ (by simp; omega) (by simp; omega)
end Go.Proofs.YtcnembabenlheaaDoor
