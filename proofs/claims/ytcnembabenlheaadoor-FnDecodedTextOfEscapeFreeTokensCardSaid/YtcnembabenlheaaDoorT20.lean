/-
  Runes written as UTF-8 and read again; white space cut off at both ends: plainly.
-/
import Derived.Test.YtcnembabenlheaaDoorT12
import Derived.Lib.RuneBytes
namespace Go.Proofs.YtcnembabenlheaaDoor
open Go.Lib (decodeN decode_at decodeGo encodeRuneZ encodeRuneZ_one encodeRuneZ_two encodeRuneZ_three encodeRuneZ_four encodeRuneZ_bad encodeRuneZ_byte encodeRuneZ_length)
set_option linter.unusedVariables false
theorem bytN (xs : List Int) (hx : ∀ x ∈ xs, 0 ≤ x ∧ x < 256) (i : Nat) (h : i < xs.length) : (byt (strOfNums xs) i : Int) = xs.getD i 0 := by
  have hs : i < (strOfNums xs).size := by rw [strOfNums_size]; exact h
  rw [← byt_at _ i hs]
  have e : (strOfNums xs)[i]'hs = UInt8.ofNat (xs[i]'h).toNat := by
    show (strOfNums xs).data[i] = _
    simp [strOfNums]
  rw [e]
  obtain ⟨h0, h1⟩ := hx _ (List.getElem_mem h)
  simp [List.getD, h]
  omega
/-- the text of runes -/
def encs (rs : List Int) : List Int := rs.flatMap encodeRuneZ
theorem encs_nil : encs [] = [] := rfl
theorem encs_cons (r : Int) (rs : List Int) : encs (r :: rs) = encodeRuneZ r ++ encs rs := by simp [encs]
theorem encs_app (a b : List Int) : encs (a ++ b) = encs a ++ encs b := by simp [encs]
theorem encs_byte (rs : List Int) : ∀ x ∈ encs rs, 0 ≤ x ∧ x < 256 := by
  intro x hx
  simp only [encs, List.mem_flatMap] at hx
  obtain ⟨r, _, h⟩ := hx
  exact encodeRuneZ_byte r x h
theorem encs_len (rs : List Int) : (encs rs).length ≤ 4 * rs.length := by
  induction rs with
  | nil => simp [encs]
  | cons r rs ih => rw [encs_cons]; have := (encodeRuneZ_length r).2; simp; omega
/-- what a written number is read back as -/
def fixR (r : Int) : Int := if r < 0 ∨ (55296 ≤ r ∧ r ≤ 57343) ∨ 1114111 < r then 65533 else r
theorem fixR_rng (r : Int) : 0 ≤ fixR r ∧ fixR r ≤ 1114111 := by unfold fixR; split <;> omega
theorem enc_fix (r : Int) : encodeRuneZ (fixR r) = encodeRuneZ r := by
  unfold fixR
  split
  · rename_i h; rw [encodeRuneZ_bad h]; rfl
  · rfl
theorem get_l (e rest : List Int) (j : Nat) (h : j < e.length) : (e ++ rest).getD j 0 = e.getD j 0 := by
  simp [List.getD, List.getElem?_append_left, h]
theorem bytH (e rest : List Int) (he : ∀ x ∈ e, 0 ≤ x ∧ x < 256) (hr : ∀ x ∈ rest, 0 ≤ x ∧ x < 256) (j : Nat) (h : j < e.length) : (byt (strOfNums (e ++ rest)) j : Int) = e.getD j 0 := by
  rw [bytN _ (by intro x hx; rw [List.mem_append] at hx; rcases hx with hx | hx; (exact he x hx); exact hr x hx) j (by simp; omega), get_l e rest j h]
theorem enc_dec (r : Int) (rest : List Int) (hr : ∀ x ∈ rest, 0 ≤ x ∧ x < 256) : decodeGo (strOfNums (encodeRuneZ r ++ rest)) = ((fixR r).toNat, (encodeRuneZ r).length) := by
  obtain ⟨S, hS⟩ : ∃ S, strOfNums (encodeRuneZ r ++ rest) = S := ⟨_, rfl⟩
  have hz : S.size = (encodeRuneZ r).length + rest.length := by rw [← hS, strOfNums_size]; simp
  have hb : ∀ j, j < (encodeRuneZ r).length → (byt S j : Int) = (encodeRuneZ r).getD j 0 := fun j h => by rw [← hS]; exact bytH _ _ (encodeRuneZ_byte r) hr j h
  have hl := (encodeRuneZ_length r).1
  rw [hS]
  have hd := dec_at S 0 (by omega)
  rw [ByteArray.extract_zero_size] at hd
  rw [hd, ← zd_eq _ _ _ _ _ (byt_lt _ _) (byt_lt _ _) (byt_lt _ _) (byt_lt _ _)]
  rcases (show (r < 0 ∨ (55296 ≤ r ∧ r ≤ 57343) ∨ 1114111 < r) ∨ (0 ≤ r ∧ r ≤ 127) ∨ (128 ≤ r ∧ r ≤ 2047) ∨ ((2048 ≤ r ∧ r < 55296) ∨ (57343 < r ∧ r ≤ 65535)) ∨ (65536 ≤ r ∧ r ≤ 1114111) by omega) with h | h | h | h | h
  · have e := encodeRuneZ_bad h
    have hf : fixR r = 65533 := by unfold fixR; rw [if_pos h]
    rw [e] at hb hz ⊢
    have b0 := hb 0 (by simp); have b1 := hb 1 (by simp); have b2 := hb 2 (by simp)
    simp at b0 b1 b2 hz
    have c0 : byt S 0 = 239 := by omega
    have c1 : byt S 1 = 191 := by omega
    have c2 : byt S 2 = 189 := by omega
    rw [hf]; unfold zd
    rw [show 0 + 1 = 1 from rfl, show 0 + 2 = 2 from rfl, c0, c1, c2]
    rw [if_neg (by omega), if_neg (by omega), if_pos (by omega), if_pos ⟨by omega, by decide, by decide, by omega, by omega⟩]
    rfl
  · have e := encodeRuneZ_one h.1 h.2
    have hf : fixR r = r := by unfold fixR; rw [if_neg (by omega)]
    rw [e] at hb hz ⊢
    have b0 := hb 0 (by simp)
    simp at b0 hz
    rw [hf]; unfold zd
    rw [if_pos (by omega)]
    exact Prod.ext (by simp; omega) rfl
  · have e := encodeRuneZ_two h.1 h.2
    have hf : fixR r = r := by unfold fixR; rw [if_neg (by omega)]
    rw [e] at hb hz ⊢
    have b0 := hb 0 (by simp); have b1 := hb 1 (by simp)
    simp at b0 b1 hz
    rw [hf]; unfold zd
    rw [show 0 + 1 = 1 from rfl]
    rw [if_neg (by omega), if_pos (by omega), if_pos (by omega)]
    exact Prod.ext (by simp; omega) rfl
  · have e := encodeRuneZ_three h
    have hf : fixR r = r := by unfold fixR; rw [if_neg (by omega)]
    rw [e] at hb hz ⊢
    have b0 := hb 0 (by simp); have b1 := hb 1 (by simp); have b2 := hb 2 (by simp)
    simp at b0 b1 b2 hz
    rw [hf]; unfold zd
    rw [show 0 + 1 = 1 from rfl, show 0 + 2 = 2 from rfl]
    rw [if_neg (by omega), if_neg (by omega), if_pos (by omega), if_pos (by refine ⟨by omega, ?_, ?_, by omega, by omega⟩ <;> (split <;> omega))]
    exact Prod.ext (by simp; omega) rfl
  · have e := encodeRuneZ_four h.1 h.2
    have hf : fixR r = r := by unfold fixR; rw [if_neg (by omega)]
    rw [e] at hb hz ⊢
    have b0 := hb 0 (by simp); have b1 := hb 1 (by simp); have b2 := hb 2 (by simp); have b3 := hb 3 (by simp)
    simp at b0 b1 b2 b3 hz
    rw [hf]; unfold zd
    rw [show 0 + 1 = 1 from rfl, show 0 + 2 = 2 from rfl, show 0 + 3 = 3 from rfl]
    rw [if_neg (by omega), if_neg (by omega), if_neg (by omega), if_pos (by omega), if_pos (by refine ⟨by omega, ?_, ?_, by omega, by omega, by omega, by omega⟩ <;> (split <;> omega))]
    exact Prod.ext (by simp; omega) rfl
/-- the string behind its first bytes -/
theorem str_drop (a b : List Int) : (strOfNums (a ++ b)).extract a.length (strOfNums (a ++ b)).size = strOfNums b := by
  apply ByteArray.ext
  simp [strOfNums, ByteArray.size]
  exact List.take_of_length_le (by simp)
theorem str_take (a b : List Int) : (strOfNums (a ++ b)).extract 0 a.length = strOfNums a := by
  apply ByteArray.ext
  simp [strOfNums]
theorem str_app (a b : List Int) : strOfNums (a ++ b) = strOfNums a ++ strOfNums b := by
  apply ByteArray.ext
  simp [strOfNums]
def clean (r : Int) : Int := if r = 0 then 65533 else r
theorem enc_bytes (r : Int) : (r ≠ 0 → ∀ x ∈ encodeRuneZ r, x ≠ 0) ∧ (r ≠ 92 → ∀ x ∈ encodeRuneZ r, x ≠ 92) ∧ (¬ (0 ≤ r ∧ r ≤ 127) → ∀ x ∈ encodeRuneZ r, 128 ≤ x) := by
  rcases (show (r < 0 ∨ (55296 ≤ r ∧ r ≤ 57343) ∨ 1114111 < r) ∨ (0 ≤ r ∧ r ≤ 127) ∨ (128 ≤ r ∧ r ≤ 2047) ∨ ((2048 ≤ r ∧ r < 55296) ∨ (57343 < r ∧ r ≤ 65535)) ∨ (65536 ≤ r ∧ r ≤ 1114111) by omega) with h | h | h | h | h
  · rw [encodeRuneZ_bad h]; simp
  · rw [encodeRuneZ_one h.1 h.2]; simp; omega
  · rw [encodeRuneZ_two h.1 h.2]; simp; omega
  · rw [encodeRuneZ_three h]; simp; omega
  · rw [encodeRuneZ_four h.1 h.2]; simp; omega
theorem no92 (rs : List Int) (h : ∀ r ∈ rs, r ≠ 92) : ∀ x ∈ encs rs, x ≠ 92 := by
  intro x hx
  simp only [encs, List.mem_flatMap] at hx
  obtain ⟨r, hr, h2⟩ := hx
  exact (enc_bytes r).2.1 (h r hr) x h2
theorem enc0 : encodeRuneZ 0 = [0] := rfl
theorem no0 (rs : List Int) (h : ∀ j, j < (encs rs).length → (encs rs).getD j 0 ≠ 0) : ∀ r ∈ rs, r ≠ 0 := by
  intro r hr h0
  subst h0
  have hm : (0 : Int) ∈ encs rs := by simp only [encs, List.mem_flatMap]; exact ⟨0, hr, by simp [enc0]⟩
  obtain ⟨j, hj, e⟩ := List.getElem_of_mem hm
  exact h j hj (by simp [List.getD, hj, e])
theorem clean_same (rs : List Int) (h : ∀ r ∈ rs, r ≠ 0) : rs.map clean = rs := by
  rw [List.map_congr_left (g := id) (fun r hr => by simp [clean, h r hr])]; simp
theorem first0 (rs : List Int) : ∀ i, i < (encs rs).length → (encs rs).getD i 0 = 0 → (∀ j, j < i → (encs rs).getD j 0 ≠ 0) → ∃ rs1 rs2, rs = rs1 ++ 0 :: rs2 ∧ (encs rs1).length = i ∧ ∀ r ∈ rs1, r ≠ 0 := by
  induction rs with
  | nil => intro i h; simp [encs] at h
  | cons r rs ih =>
    intro i h1 h2 h3
    rw [encs_cons] at h1 h2 h3
    by_cases hr : r = 0
    · subst hr
      refine ⟨[], rs, rfl, ?_, by simp⟩
      by_cases hi : i = 0
      · simp [encs, hi]
      · exact absurd (by simp [enc0]) (h3 0 (by omega))
    · by_cases hi : i < (encodeRuneZ r).length
      · rw [get_l _ _ _ hi] at h2
        exact absurd (by simpa [List.getD, hi] using h2) ((enc_bytes r).1 hr _ (List.getElem_mem hi))
      · obtain ⟨k, rfl⟩ : ∃ k, i = (encodeRuneZ r).length + k := ⟨i - (encodeRuneZ r).length, by omega⟩
        have hg : ∀ k, (encodeRuneZ r ++ encs rs).getD ((encodeRuneZ r).length + k) 0 = (encs rs).getD k 0 := fun k => by
          simp [List.getD, List.getElem?_append_right]
        rw [hg] at h2
        obtain ⟨rs1, rs2, e1, e2, e3⟩ := ih k (by simp at h1; omega) h2 (fun j hj => by rw [← hg j]; exact h3 _ (by omega))
        refine ⟨r :: rs1, rs2, by rw [e1]; rfl, by rw [encs_cons]; simp; omega, ?_⟩
        intro x hx
        rcases List.mem_cons.1 hx with rfl | hx
        · exact hr
        · exact e3 x hx
/-- white space -/
def isW (r : Int) : Bool := decide (r = 32 ∨ r = 9 ∨ r = 10 ∨ r = 13 ∨ r = 12)
theorem trim_l (rs : List Int) : ∃ A R, rs = A ++ R ∧ (∀ r ∈ A, isW r = true) ∧ (R = [] ∨ ∃ m R', R = m :: R' ∧ isW m = false) := by
  induction rs with
  | nil => exact ⟨[], [], rfl, by simp, Or.inl rfl⟩
  | cons r rs ih =>
    cases hw : isW r with
    | false => exact ⟨[], r :: rs, rfl, by simp, Or.inr ⟨r, rs, rfl, hw⟩⟩
    | true =>
      obtain ⟨A, R, e, h1, h2⟩ := ih
      refine ⟨r :: A, R, by rw [e]; rfl, ?_, h2⟩
      intro x hx
      rcases List.mem_cons.1 hx with rfl | hx
      · exact hw
      · exact h1 x hx
theorem trim (rs : List Int) : ∃ A M Z, rs = A ++ M ++ Z ∧ (∀ r ∈ A, isW r = true) ∧ (∀ r ∈ Z, isW r = true) ∧ ((M = [] ∧ Z = []) ∨ ((∃ m M', M = m :: M' ∧ isW m = false) ∧ ∃ M' m, M = M' ++ [m] ∧ isW m = false)) := by
  obtain ⟨A, R, e, h1, h2⟩ := trim_l rs
  rcases h2 with rfl | ⟨m, R', rfl, hm⟩
  · exact ⟨A, [], [], by simpa using e, h1, by simp, Or.inl ⟨rfl, rfl⟩⟩
  · obtain ⟨Z, Q, e2, h3, h4⟩ := trim_l (m :: R').reverse
    have e3 : m :: R' = Q.reverse ++ Z.reverse := by
      have := congrArg List.reverse e2
      simpa using this
    rcases h4 with rfl | ⟨x, Q', rfl, hx⟩
    · exfalso
      have : m ∈ Z.reverse := by
        have h5 : m :: R' = Z.reverse := by simpa using e3
        rw [← h5]; simp
      have := h3 m (by simpa using this)
      rw [hm] at this; cases this
    · refine ⟨A, (x :: Q').reverse, Z.reverse, by rw [e, e3]; simp, h1, fun r hr => h3 r (by simpa using hr), Or.inr ⟨?_, Q'.reverse, x, by simp, hx⟩⟩
      cases hq : (x :: Q').reverse with
      | nil => simp at hq
      | cons a b =>
        rw [hq] at e3
        have : m = a := by simpa using congrArg (List.head? ·) e3
        exact ⟨a, b, rfl, by rw [← this]; exact hm⟩
theorem isW_rng (r : Int) (h : isW r = true) : 9 ≤ r ∧ r ≤ 32 := by
  simp only [isW, decide_eq_true_eq] at h; omega
/-- white space is written as itself -/
theorem encs_W (A : List Int) (h : ∀ r ∈ A, isW r = true) : encs A = A := by
  induction A with
  | nil => rfl
  | cons r A ih =>
    have := isW_rng r (h r (by simp))
    rw [encs_cons, encodeRuneZ_one (by omega) (by omega), ih (fun x hx => h x (by simp [hx]))]; rfl
/-- a rune that is no white space begins and ends with no white space -/
theorem enc_noW (r : Int) (h : isW r = false) : ∀ x ∈ encodeRuneZ r, isW x = false := by
  intro x hx
  by_cases hr : 0 ≤ r ∧ r ≤ 127
  · rw [encodeRuneZ_one hr.1 hr.2] at hx
    simp at hx; rw [hx]; exact h
  · have := (enc_bytes r).2.2 hr x hx
    simp [isW]; omega
end Go.Proofs.YtcnembabenlheaaDoor
