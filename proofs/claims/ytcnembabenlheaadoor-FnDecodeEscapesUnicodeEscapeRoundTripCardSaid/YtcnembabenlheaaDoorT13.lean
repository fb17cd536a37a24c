/-
  The bytes that FnDecodeEscapesUnicodeEscapeRoundTrip writes, plainly.
-/
import Derived.Test.YtcnembabenlheaaDoorT11
import Derived.Test.YtcnembabenlheaaDoorT12
namespace Go.Proofs.YtcnembabenlheaaDoor
open Go.ChangeShapes Go.WideShapes Go.ChangeAt Go.RowKit
set_option linter.unusedVariables false
/-- the bytes of one unit -/
def enc1 (k : Nat) (u : Int) : List Int := if 32 ≤ u ∧ u < 127 ∧ u ≠ 92 then [u] else [92, 117, hdig (k % 2 == 1) (u / 4096 % 16), hdig (k % 2 == 1) (u / 256 % 16), hdig (k % 2 == 1) (u / 16 % 16), hdig (k % 2 == 1) (u % 16)]
def encL : Nat → List Int → List Int
  | _, [] => []
  | k, u :: us => enc1 k u ++ encL (k + 1) us
theorem hdig_all : ∀ up : Bool, ∀ n : Nat, n < 16 → isHx (hdig up (n : Int)).toNat = true ∧ hx (hdig up (n : Int)).toNat = n ∧ 0 ≤ hdig up (n : Int) ∧ hdig up (n : Int) < 256 := by decide
theorem hdig_hx (up : Bool) (d : Int) (h0 : 0 ≤ d) (h1 : d < 16) : isHx (hdig up d).toNat = true ∧ (hx (hdig up d).toNat : Int) = d ∧ 0 ≤ hdig up d ∧ hdig up d < 256 := by
  obtain ⟨n, rfl⟩ : ∃ n : Nat, d = n := ⟨d.toNat, by omega⟩
  obtain ⟨a, b, c, e⟩ := hdig_all up n (by omega)
  exact ⟨a, by omega, c, e⟩
theorem byt_nums (xs : List Int) (hx : ∀ x ∈ xs, 0 ≤ x ∧ x < 256) (i : Nat) (h : i < xs.length) : (byt (strOfNums xs) i : Int) = xs.getD i 0 := by
  have hs : i < (strOfNums xs).size := by rw [strOfNums_size]; exact h
  rw [← byt_at _ i hs]
  have e : (strOfNums xs)[i]'hs = UInt8.ofNat (xs[i]'h).toNat := by
    show (strOfNums xs).data[i] = _
    simp [strOfNums]
  rw [e]
  obtain ⟨h0, h1⟩ := hx _ (List.getElem_mem h)
  simp [List.getD, h]
  omega
theorem getD_mid (a e r : List Int) (j : Nat) (h : j < e.length) : ((a ++ e) ++ r).getD (a.length + j) 0 = e.getD j 0 := by
  simp [List.getD, List.getElem?_append_left, List.getElem?_append_right, h]
theorem enc1_len (k : Nat) (u : Int) : 1 ≤ (enc1 k u).length ∧ (enc1 k u).length ≤ 6 := by
  unfold enc1; split <;> simp
theorem enc1_byte (k : Nat) (u : Int) (h0 : 0 ≤ u) (h1 : u ≤ 65535) : ∀ x ∈ enc1 k u, 0 ≤ x ∧ x < 256 := by
  intro x hx
  unfold enc1 at hx
  split at hx
  · simp at hx; omega
  · have a := hdig_hx (k % 2 == 1) (u / 4096 % 16) (by omega) (by omega)
    have b := hdig_hx (k % 2 == 1) (u / 256 % 16) (by omega) (by omega)
    have c := hdig_hx (k % 2 == 1) (u / 16 % 16) (by omega) (by omega)
    have d := hdig_hx (k % 2 == 1) (u % 16) (by omega) (by omega)
    simp at hx
    rcases hx with rfl | rfl | rfl | rfl | rfl | rfl
    · omega
    · omega
    · exact a.2.2
    · exact b.2.2
    · exact c.2.2
    · exact d.2.2
theorem encL_byte (us : List Int) (hus : ∀ u ∈ us, 0 ≤ u ∧ u ≤ 65535) : ∀ k, ∀ x ∈ encL k us, 0 ≤ x ∧ x < 256 := by
  induction us with
  | nil => intro k x hx; simp [encL] at hx
  | cons u us ih =>
    intro k x hx
    rw [encL, List.mem_append] at hx
    rcases hx with hx | hx
    · exact enc1_byte k u (hus u (by simp)).1 (hus u (by simp)).2 x hx
    · exact ih (fun u h => hus u (by simp [h])) (k + 1) x hx
theorem encL_len (us : List Int) : ∀ k, (encL k us).length ≤ 6 * us.length := by
  induction us with
  | nil => intro k; simp [encL]
  | cons u us ih => intro k; have := ih (k + 1); have := (enc1_len k u).2; simp [encL]; omega
theorem enc_ok1 (k : Nat) (u : Int) (h0 : 0 ≤ u) (h1 : u ≤ 65535) (s : ByteArray) (i : Nat) (hs : i + (enc1 k u).length ≤ s.size) (hb : ∀ j, j < (enc1 k u).length → (byt s (i + j) : Int) = (enc1 k u).getD j 0) : Ok1 s i [u] (i + (enc1 k u).length) := by
  unfold enc1 at *
  split at hs
  · rename_i hc
    rw [if_pos hc] at hb ⊢
    have b0 := hb 0 (by simp)
    simp at b0 hs ⊢
    exact Or.inl ⟨by omega, by omega, by omega, by omega, by rw [b0], rfl⟩
  · rename_i hc
    rw [if_neg hc] at hb ⊢
    obtain ⟨a1, a2, a3, a4⟩ := hdig_hx (k % 2 == 1) (u / 4096 % 16) (by omega) (by omega)
    obtain ⟨b1, b2, b3, b4⟩ := hdig_hx (k % 2 == 1) (u / 256 % 16) (by omega) (by omega)
    obtain ⟨c1, c2, c3, c4⟩ := hdig_hx (k % 2 == 1) (u / 16 % 16) (by omega) (by omega)
    obtain ⟨d1, d2, d3, d4⟩ := hdig_hx (k % 2 == 1) (u % 16) (by omega) (by omega)
    have e0 := hb 0 (by simp); have e1 := hb 1 (by simp); have e2 := hb 2 (by simp); have e3 := hb 3 (by simp); have e4 := hb 4 (by simp); have e5 := hb 5 (by simp)
    simp at e0 e1 e2 e3 e4 e5 hs ⊢
    have f2 : byt s (i + 2) = (hdig (k % 2 == 1) (u / 4096 % 16)).toNat := by omega
    have f3 : byt s (i + 3) = (hdig (k % 2 == 1) (u / 256 % 16)).toNat := by omega
    have f4 : byt s (i + 4) = (hdig (k % 2 == 1) (u / 16 % 16)).toNat := by omega
    have f5 : byt s (i + 5) = (hdig (k % 2 == 1) (u % 16)).toNat := by omega
    refine Or.inr ⟨by omega, by omega, by omega, ?_, ?_, rfl⟩
    · intro j hj
      rcases (show j = 0 ∨ j = 1 ∨ j = 2 ∨ j = 3 by omega) with rfl | rfl | rfl | rfl
      · rw [Nat.add_zero, f2]; exact a1
      · rw [show i + 2 + 1 = i + 3 by omega, f3]; exact b1
      · rw [show i + 2 + 2 = i + 4 by omega, f4]; exact c1
      · rw [show i + 2 + 3 = i + 5 by omega, f5]; exact d1
    · simp only [vj]
      rw [Nat.add_zero, show i + 2 + 1 = i + 3 by omega, show i + 2 + 2 = i + 4 by omega, show i + 2 + 3 = i + 5 by omega, f2, f3, f4, f5]
      congr 1
      omega
theorem enc_ch (us : List Int) (hus : ∀ u ∈ us, 0 ≤ u ∧ u ≤ 65535) : ∀ (k : Nat) (pre : List Int), (∀ x ∈ pre, 0 ≤ x ∧ x < 256) → Ch32 (strOfNums (pre ++ encL k us)) pre.length us := by
  induction us with
  | nil =>
    intro k pre hp
    have e : (strOfNums (pre ++ encL k [])).size = pre.length := by rw [strOfNums_size]; simp [encL]
    have := Ch32.done (s := strOfNums (pre ++ encL k []))
    rw [e] at this; exact this
  | cons u us ih =>
    intro k pre hp
    have hu := hus u (by simp)
    have h1 := ih (fun u h => hus u (by simp [h])) (k + 1) (pre ++ enc1 k u) (by
      intro x hx; rw [List.mem_append] at hx
      rcases hx with hx | hx
      · exact hp x hx
      · exact enc1_byte k u hu.1 hu.2 x hx)
    have e : pre ++ encL k (u :: us) = (pre ++ enc1 k u) ++ encL (k + 1) us := by simp [encL]
    rw [e]
    rw [List.length_append] at h1
    refine Ch32.step _ [u] _ us (enc_ok1 k u hu.1 hu.2 _ _ ?_ ?_) h1
    · rw [strOfNums_size]; simp
    · intro j hj
      rw [byt_nums _ (by
        intro x hx; rw [List.mem_append, List.mem_append] at hx
        rcases hx with (hx | hx) | hx
        · exact hp x hx
        · exact enc1_byte k u hu.1 hu.2 x hx
        · exact encL_byte us (fun u h => hus u (by simp [h])) (k + 1) x hx) _ (by simp; omega), getD_mid _ _ _ _ hj]
theorem enc_all (us : List Int) (hus : ∀ u ∈ us, 0 ≤ u ∧ u ≤ 65535) : Ch32 (strOfNums (encL 0 us)) 0 us := by
  have := enc_ch us hus 0 [] (by simp)
  simpa using this
end Go.Proofs.YtcnembabenlheaaDoor
