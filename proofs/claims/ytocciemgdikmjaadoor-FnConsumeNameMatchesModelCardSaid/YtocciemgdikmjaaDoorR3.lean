/-
  The name at a place, plainly: bytes and escapes; valid UTF-8.
-/
import Derived.Test.YtocciemgdikmjaaDoorR2
import Derived.Test.YtocciemgdikmjaaDoorQ13
import Derived.Lib.MapLaws
namespace Go.Proofs.YtocciemgdikmjaaDoor
open Go.ChangeShapes Go.WideShapes Go.ChangeAt Go.RowKit
open Go.Lib (decodeN decode_at decodeGo encodeRuneZ encodeRuneZ_one encodeRuneZ_two encodeRuneZ_three encodeRuneZ_four encodeRuneZ_bad encodeRuneZ_byte encodeRuneZ_length decodeN_shape)
set_option linter.unusedVariables false
/-- an escape begins here -/
def escN (s : ByteArray) (p : Nat) : Bool := decide (p < s.size ∧ byt s p = 92 ∧ ¬ (p + 1 < s.size ∧ nlC (byt s (p + 1)) = true))
/-- the name from place p on says l and ends at E -/
inductive Nm (s : ByteArray) (E : Nat) : Nat → List Int → Prop
  | stop : ¬ (E < s.size ∧ ncB (byt s E : Nat) = true) → escN s E = false → Nm s E E []
  | name {p : Nat} {l : List Int} : p < s.size → ncB (byt s p : Nat) = true → Nm s E (p + 1) l → Nm s E p ((byt s p : Int) :: l)
  | esc {p : Nat} {l : List Int} : p < s.size → ncB (byt s p : Nat) = false → escN s p = true → Nm s E (esc s (p + 1)).2 l → Nm s E p (encodeRuneZ (esc s (p + 1)).1 ++ l)
theorem nm_ex (s : ByteArray) : ∀ n p, s.size - p = n → p ≤ s.size → ∃ E l, Nm s E p l := by
  intro n
  induction n using Nat.strongRecOn with
  | _ n ih =>
    intro p hn hp
    by_cases h1 : p < s.size ∧ ncB (byt s p : Nat) = true
    · obtain ⟨E, l, h⟩ := ih (s.size - (p + 1)) (by omega) (p + 1) rfl (by omega)
      exact ⟨E, _, Nm.name h1.1 h1.2 h⟩
    · cases h2 : escN s p with
      | false => exact ⟨p, [], Nm.stop h1 h2⟩
      | true =>
        have hp2 : p < s.size := by unfold escN at h2; simp at h2; exact h2.1
        have hg := esc_ge s (p + 1) (by omega)
        obtain ⟨E, l, h⟩ := ih (s.size - (esc s (p + 1)).2) (by omega) _ rfl hg.2
        exact ⟨E, _, Nm.esc hp2 (by cases h3 : ncB (byt s p : Nat) with | false => rfl | true => exact absurd ⟨hp2, h3⟩ h1) h2 h⟩
theorem nm_le {s : ByteArray} {E p : Nat} {l : List Int} (h : Nm s E p l) : p ≤ s.size → p ≤ E ∧ E ≤ s.size ∧ l.length ≤ 4 * (s.size - p) := by
  induction h with
  | stop h1 h2 => intro hp; exact ⟨Nat.le_refl _, hp, by simp⟩
  | name h1 h2 h3 ih =>
    intro hp
    obtain ⟨a, b, c⟩ := ih (by omega)
    exact ⟨by omega, b, by simp only [List.length_cons]; omega⟩
  | @esc p l h1 h2 h3 h4 ih =>
    intro hp
    have hg := esc_ge s (p + 1) (by omega)
    obtain ⟨a, b, c⟩ := ih hg.2
    have hl := (encodeRuneZ_length (esc s (p + 1)).1).2
    exact ⟨by omega, b, by simp only [List.length_append]; omega⟩
/-- k bytes from place p on -/
def bytL (s : ByteArray) : Nat → Nat → List Int
  | _, 0 => []
  | p, k + 1 => (byt s p : Int) :: bytL s (p + 1) k
theorem bytL_len (s : ByteArray) : ∀ k p, (bytL s p k).length = k
  | 0, _ => rfl
  | k + 1, p => by simp [bytL, bytL_len s k]
theorem bytL_get (s : ByteArray) : ∀ k p j, j < k → (bytL s p k).getD j 0 = (byt s (p + j) : Int)
  | 0, _, j, h => by omega
  | k + 1, p, 0, h => rfl
  | k + 1, p, j + 1, h => by
    show (bytL s (p + 1) k).getD j 0 = _
    rw [bytL_get s k (p + 1) j (by omega), show p + 1 + j = p + (j + 1) by omega]
theorem nm_run {s : ByteArray} {E : Nat} : ∀ k p l, (∀ j, p ≤ j → j < p + k → j < s.size ∧ ncB (byt s j : Nat) = true) → Nm s E p l → ∃ l', l = bytL s p k ++ l' ∧ Nm s E (p + k) l'
  | 0, p, l, _, h => ⟨l, rfl, h⟩
  | k + 1, p, l, hj, h => by
    have h0 := hj p (Nat.le_refl _) (by omega)
    cases h with
    | stop h1 h2 => exact absurd h0 h1
    | esc h1 h2 h3 h4 => rw [h0.2] at h2; cases h2
    | name h1 h2 h3 =>
      obtain ⟨l', e, h5⟩ := nm_run k (p + 1) _ (fun j a b => hj j (by omega) (by omega)) h3
      refine ⟨l', by rw [e]; rfl, ?_⟩
      rw [show p + (k + 1) = p + 1 + k by omega]; exact h5
theorem str_bytL (s : ByteArray) (p k : Nat) (h : p + k ≤ s.size) : strOfNums (bytL s p k) = s.extract p (p + k) := by
  apply ByteArray.ext
  apply Array.ext
  · simp [strOfNums, bytL_len]; omega
  · intro j h1 h2
    have hj : j < k := by simpa [strOfNums, bytL_len] using h1
    have e := bytL_get s k p j hj
    have hjl : j < (bytL s p k).length := by rw [bytL_len]; exact hj
    have e2 : (bytL s p k)[j] = (byt s (p + j) : Int) := by simpa [List.getD, hjl] using e
    simp [strOfNums, e2]
    rw [← byt_at s (p + j) (by omega)]
    simp
    rfl
/-- valid UTF-8 from place p on -/
inductive Vd (s : ByteArray) : Nat → Prop
  | stop {p : Nat} : s.size ≤ p → Vd s p
  | step {p : Nat} : p < s.size → ¬ ((decodeGo (s.extract p s.size)).1 = 65533 ∧ (decodeGo (s.extract p s.size)).2 = 1) → Vd s (p + wid s p) → Vd s p
theorem Vd.asc {s : ByteArray} {p : Nat} (h : Vd s p) (hp : p < s.size) (hb : byt s p < 128) : Vd s (p + 1) := by
  cases h with
  | stop h1 => omega
  | step h1 h2 h3 => rw [wid_asc s p hp hb] at h3; exact h3
theorem Vd.cp {s : ByteArray} {p : Nat} (h : Vd s p) (hp : p ≤ s.size) : Vd s (p + wid s p) := by
  by_cases hl : p < s.size
  · cases h with
    | stop h1 => omega
    | step h1 h2 h3 => exact h3
  · obtain rfl : p = s.size := by omega
    rw [wid_end]; exact h
theorem Vd.hex {s : ByteArray} : ∀ k i v, Vd s i → Vd s (hexR s k i v).2
  | 0, i, v, h => h
  | k + 1, i, v, h => by
    unfold hexR
    by_cases hc : i < s.size ∧ hexI (byt s i) = true
    · rw [if_pos hc]
      have hx := hc.2
      exact Vd.hex k (i + 1) _ (h.asc hc.1 (by unfold hexI at hx; simp at hx; omega))
    · rw [if_neg hc]; exact h
theorem Vd.esc {s : ByteArray} {i : Nat} (h : Vd s i) (hi : i ≤ s.size) : Vd s (esc s i).2 := by
  unfold Go.Proofs.YtocciemgdikmjaaDoor.esc
  by_cases h1 : s.size ≤ i
  · rw [if_pos h1]; exact h
  rw [if_neg h1]
  by_cases h2 : hexI (byt s i) = true
  · rw [if_pos h2]
    have hh := Vd.hex 5 (i + 1) (hxI (byt s i)).toNat (h.asc (by omega) (by unfold hexI at h2; simp at h2; omega))
    show Vd s (if _ then _ else _)
    split
    · rename_i hw
      exact hh.asc (wsC_lt s _ hw) (by unfold wsC at hw; simp at hw; omega)
    · exact hh
  · rw [if_neg h2]; exact h.cp hi
theorem Vd.nm {s : ByteArray} : ∀ n p, s.size - p = n → p ≤ s.size → Vd s p → Vd s (nmE s p) := by
  intro n
  induction n using Nat.strongRecOn with
  | _ n ih =>
    intro p hn hp h
    rw [nmE_cp s p hp]
    by_cases hc : ncB (cpOf s p) = true
    · rw [if_pos hc]
      have hlt : p < s.size := by
        by_cases hq : p < s.size
        · exact hq
        · obtain rfl : p = s.size := by omega
          rw [nc_end] at hc; cases hc
      have := wid_pos s p hlt
      have := wid_le s p hp
      exact ih _ (by omega) _ rfl (by omega) (h.cp hp)
    · rw [if_neg hc]; exact h
theorem l2 {a b c d : Int} (h1 : a = c) (h2 : b = d) : [a, b] = [c, d] := by rw [h1, h2]
theorem l3 {a b e c d f : Int} (h1 : a = c) (h2 : b = d) (h3 : e = f) : [a, b, e] = [c, d, f] := by rw [h1, h2, h3]
theorem l4 {a b e x c d f y : Int} (h1 : a = c) (h2 : b = d) (h3 : e = f) (h4 : x = y) : [a, b, e, x] = [c, d, f, y] := by rw [h1, h2, h3, h4]
theorem encN (n b0 b1 b2 b3 : Nat) (k0 : b0 < 256) (k1 : b1 < 256) (k2 : b2 < 256) (k3 : b3 < 256) (h2 : ¬ ((decodeN n b0 b1 b2 b3).1 = 65533 ∧ (decodeN n b0 b1 b2 b3).2 = 1)) (L : Nat → List Int) (hL : L 1 = [(b0 : Int)] ∧ L 2 = [(b0 : Int), (b1 : Int)] ∧ L 3 = [(b0 : Int), (b1 : Int), (b2 : Int)] ∧ L 4 = [(b0 : Int), (b1 : Int), (b2 : Int), (b3 : Int)]) :
    encodeRuneZ ((decodeN n b0 b1 b2 b3).1 : Nat) = L (decodeN n b0 b1 b2 b3).2 := by
  obtain ⟨e1, e2, e3, e4⟩ := hL
  rcases decodeN_shape n b0 b1 b2 b3 with ⟨c, e⟩ | ⟨c1, c2, c3, cv, e⟩ | ⟨c1, c2, c3, c4, cv, cs, e⟩ | ⟨c1, c2, c3, c4, c5, cv, cw, e⟩ | e
  · rw [e]; dsimp only
    rw [encodeRuneZ_one (by omega) (by omega), e1]
  · rw [e]; dsimp only
    rw [encodeRuneZ_two (by omega) (by omega), e2]
    exact l2 (by omega) (by omega)
  · rw [e]; dsimp only
    rw [encodeRuneZ_three (by omega), e3]
    exact l3 (by omega) (by omega) (by omega)
  · rw [e]; dsimp only
    rw [encodeRuneZ_four (by omega) (by omega), e4]
    exact l4 (by omega) (by omega) (by omega) (by omega)
  · rw [e] at h2; exact absurd ⟨rfl, rfl⟩ h2
/-- a rune read from valid bytes is written as those bytes -/
theorem enc_at {s : ByteArray} {p : Nat} (h : Vd s p) (hp : p < s.size) : encodeRuneZ (cpOf s p) = bytL s p (wid s p) := by
  cases h with
  | stop h1 => omega
  | step h1 h2 h3 =>
    have h0 := wid_pos s p hp
    have hc : cpOf s p = ((decodeGo (s.extract p s.size)).1 : Nat) := by
      unfold cpOf
      unfold wid at h0
      rw [if_neg (by omega)]
    have hw : wid s p = (decodeGo (s.extract p s.size)).2 := rfl
    rw [hc, hw]
    rw [dec_at s p hp] at h2 ⊢
    exact encN (s.size - p) (byt s p) (byt s (p + 1)) (byt s (p + 2)) (byt s (p + 3)) (byt_lt s p) (byt_lt s (p + 1)) (byt_lt s (p + 2)) (byt_lt s (p + 3)) h2 (bytL s p) ⟨rfl, rfl, rfl, rfl⟩
theorem nm_rune {s : ByteArray} {E p : Nat} {l : List Int} (h : Nm s E p l) (hv : Vd s p) (hp : p < s.size) (hc : ncB (cpOf s p) = true) : ∃ l', l = encodeRuneZ (cpOf s p) ++ l' ∧ Nm s E (p + wid s p) l' := by
  rw [enc_at hv hp]
  have hw := wid_le s p (by omega)
  refine nm_run (wid s p) p l (fun j a b => ⟨by omega, ?_⟩) h
  by_cases hj : j = p
  · rw [hj, ← nc_cp s p hp]; exact hc
  · exact ncB_high _ (by have := wid_in s p hp j (by omega) b; omega)
theorem ive_escN (s : ByteArray) (p : Nat) (hp : p ≤ s.size) : iveB s (p + wid s p) (cpOf s p) = escN s p := by
  by_cases hc : cpOf s p = 92
  · obtain ⟨hl, hb⟩ := cp_is s p hp 92 (by omega) hc
    unfold iveB escN
    rw [wid_asc s p hl (by omega), hc]
    by_cases hx : p + 1 < s.size
    · rw [nlAt_C s (p + 1) hx]
      cases hn : nlC (byt s (p + 1)) <;> simp [hl, hb, hx]
    · have e1 : p + 1 = s.size := by omega
      rw [e1]
      have e2 : nlAt s s.size = false := nlAt_end s
      rw [e2]; simp [hl, hb]
  · unfold iveB escN
    rw [flsI _ _ hc]
    have : ¬ (p < s.size ∧ byt s p = 92 ∧ ¬ (p + 1 < s.size ∧ nlC (byt s (p + 1)) = true)) := fun hh => hc (by rw [cp_asc s p hh.1 (by omega), hh.2.1]; rfl)
    rw [decide_eq_false this]; rfl
theorem escN_nc {s : ByteArray} {p : Nat} (h : escN s p = true) : p < s.size ∧ byt s p = 92 ∧ ncB (byt s p : Nat) = false := by
  unfold escN at h
  simp only [decide_eq_true_eq] at h
  exact ⟨h.1, h.2.1, by rw [h.2.1]; decide⟩
theorem nm_escN {s : ByteArray} {E p : Nat} {l : List Int} (h : Nm s E p l) (hn : escN s p = true) : ∃ l', l = encodeRuneZ (esc s (p + 1)).1 ++ l' ∧ Nm s E (esc s (p + 1)).2 l' := by
  have hh := escN_nc hn
  cases h with
  | stop h1 h2 => rw [hn] at h2; cases h2
  | name h1 h2 h3 => rw [hh.2.2] at h2; cases h2
  | esc h1 h2 h3 h4 => exact ⟨_, rfl, h4⟩
theorem nm_stop {s : ByteArray} {E p : Nat} {l : List Int} (h : Nm s E p l) (hc : ¬ (p < s.size ∧ ncB (byt s p : Nat) = true)) (hn : escN s p = false) : l = [] ∧ E = p := by
  cases h with
  | stop h1 h2 => exact ⟨rfl, rfl⟩
  | name h1 h2 h3 => exact absurd ⟨h1, h2⟩ hc
  | esc h1 h2 h3 h4 => rw [hn] at h3; cases h3
theorem nm_name {s : ByteArray} {E p : Nat} {l : List Int} (h : Nm s E p l) (hp : p < s.size) (hc : ncB (byt s p : Nat) = true) : ∃ l', l = (byt s p : Int) :: l' ∧ Nm s E (p + 1) l' := by
  cases h with
  | stop h1 h2 => exact absurd ⟨hp, hc⟩ h1
  | name h1 h2 h3 => exact ⟨_, rfl, h3⟩
  | esc h1 h2 h3 h4 => rw [hc] at h2; cases h2
theorem esc_rng (s : ByteArray) (i : Nat) : (esc s i).1 ≤ 1114111 := by
  unfold esc
  by_cases h1 : s.size ≤ i
  · rw [if_pos h1]; show 65533 ≤ _; omega
  rw [if_neg h1]
  by_cases h2 : hexI (byt s i) = true
  · rw [if_pos h2]
    show fixV _ ≤ _
    unfold fixV
    split <;> omega
  · rw [if_neg h2]; exact decG_max _
end Go.Proofs.YtocciemgdikmjaaDoor
