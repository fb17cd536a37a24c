/-
  The body of a url, plainly; isNonPrintable; consumeURL.
-/
import Derived.Test.YtocciemgdikmjaaDoorQ2
namespace Go.Proofs.YtocciemgdikmjaaDoor
open Go.ChangeShapes Go.WideShapes Go.ChangeAt Go.RowKit
open Go.Lib (decodeN decode_at decodeGo)
set_option linter.unusedVariables false
def npI (c : Int) : Bool := decide (c ≤ 8 ∨ c = 11 ∨ (14 ≤ c ∧ c ≤ 31) ∨ c = 127)
def nlC (b : Nat) : Bool := decide (b = 10 ∨ b = 13 ∨ b = 12)
/-- a byte of a url's body -/
def plnC (b : Nat) : Bool := !(decide (b = 41 ∨ b = 40 ∨ b = 34 ∨ b = 39 ∨ b = 92) || wsC b || npI (b : Int))
def urlB (s : ByteArray) : Nat → Nat → Nat
  | 0, j => j
  | f + 1, j => if j < s.size then (if plnC (byt s j) = true then urlB s f (j + 1) else if byt s j = 92 ∧ j + 1 < s.size ∧ nlC (byt s (j + 1)) = false then urlB s f (esc s (j + 1)).2 else j) else j
def urlE (s : ByteArray) (j : Nat) : Nat := urlB s (s.size - j) j
theorem urlB_fuel (s : ByteArray) : ∀ n k j, s.size - j ≤ n → s.size ≤ j + k → urlB s k j = urlE s j := by
  intro n
  induction n with
  | zero =>
    intro k j h h2
    have e : s.size - j = 0 := by omega
    unfold urlE
    rw [e, urlB]
    cases k with
    | zero => rfl
    | succ k => rw [urlB, if_neg (by omega)]
  | succ n ih =>
    intro k j h h2
    by_cases hj : j < s.size
    · obtain ⟨k', rfl⟩ : ∃ k', k = k' + 1 := ⟨k - 1, by omega⟩
      obtain ⟨m, hm⟩ : ∃ m, s.size - j = m + 1 := ⟨s.size - j - 1, by omega⟩
      have he := esc_ge s (j + 1) (by omega)
      unfold urlE
      rw [hm, urlB, urlB, if_pos hj, if_pos hj]
      by_cases hp : plnC (byt s j) = true
      · rw [if_pos hp, if_pos hp, ih k' (j + 1) (by omega) (by omega), ih m (j + 1) (by omega) (by omega)]
      · rw [if_neg hp, if_neg hp]
        by_cases hb : byt s j = 92 ∧ j + 1 < s.size ∧ nlC (byt s (j + 1)) = false
        · rw [if_pos hb, if_pos hb, ih k' _ (by omega) (by omega), ih m _ (by omega) (by omega)]
        · rw [if_neg hb, if_neg hb]
    · unfold urlE
      rw [show s.size - j = 0 by omega, urlB]
      cases k with
      | zero => rfl
      | succ k => rw [urlB, if_neg hj]
theorem urlE_pln (s : ByteArray) (j : Nat) (hj : j < s.size) (hp : plnC (byt s j) = true) : urlE s j = urlE s (j + 1) := by
  obtain ⟨m, hm⟩ : ∃ m, s.size - j = m + 1 := ⟨s.size - j - 1, by omega⟩
  rw [urlE, hm, urlB, if_pos hj, if_pos hp, urlB_fuel s _ _ _ (Nat.le_refl _) (by omega)]
theorem urlE_esc (s : ByteArray) (j : Nat) (hb : byt s j = 92) (h1 : j + 1 < s.size) (h2 : nlC (byt s (j + 1)) = false) : urlE s j = urlE s (esc s (j + 1)).2 := by
  obtain ⟨m, hm⟩ : ∃ m, s.size - j = m + 1 := ⟨s.size - j - 1, by omega⟩
  have he := esc_ge s (j + 1) (by omega)
  rw [urlE, hm, urlB, if_pos (by omega), if_neg (by rw [hb]; decide), if_pos ⟨hb, h1, h2⟩, urlB_fuel s _ _ _ (Nat.le_refl _) (by omega)]
theorem urlE_stop (s : ByteArray) (j : Nat) (h : j < s.size → plnC (byt s j) = false ∧ ¬ (byt s j = 92 ∧ j + 1 < s.size ∧ nlC (byt s (j + 1)) = false)) : urlE s j = j := by
  unfold urlE
  cases hm : s.size - j with
  | zero => rfl
  | succ m =>
    have hj : j < s.size := by omega
    rw [urlB, if_pos hj, if_neg (by rw [(h hj).1]; simp), if_neg (h hj).2]
/-- over a rune of two bytes or more -/
theorem urlE_wid (s : ByteArray) (j : Nat) (hj : j < s.size) (hb : 128 ≤ byt s j) : urlE s j = urlE s (j + wid s j) := by
  have hw := wid_le s j (by omega)
  have h : ∀ n, n ≤ wid s j → urlE s j = urlE s (j + n) := by
    intro n
    induction n with
    | zero => intro _; rfl
    | succ n ih =>
      intro hn
      have hb2 : 128 ≤ byt s (j + n) := by
        by_cases h0 : n = 0
        · subst h0; exact hb
        · exact wid_in s j hj (j + n) (by omega) (by omega)
      rw [ih (by omega), urlE_pln s (j + n) (by omega) (by unfold plnC wsC npI; simp; omega)]
      rfl
  exact h _ (Nat.le_refl _)
/-- a url that ends well -/
def urlOk (s : ByteArray) (j : Nat) : Prop := run wsC s (urlE s j) < s.size ∧ byt s (run wsC s (urlE s j)) = 41
theorem np91 (c : Int) (w : World) : Calls Tryd.prog 91 #[.int .i32 c] w fun e w' => e = .returned (.bool (npI c)) ∧ w = w' := by
  by_cases h5 : c = 11
  · subst h5; go_enter Tryd.func91, Tryd.ntmps91; go_wp2; go_ret; exact ⟨by simp [npI], rfl⟩
  have h5' : (c == 11) = false := by simp [h5]
  by_cases h6 : c = 127
  · subst h6; go_enter Tryd.func91, Tryd.ntmps91; go_wp2; go_ret; exact ⟨by simp [npI], rfl⟩
  have h6' : (c == 127) = false := by simp [h6]
  by_cases h1 : c ≤ 8 <;> by_cases h2 : 14 ≤ c <;> by_cases h3 : c ≤ 31 <;> (try omega) <;> (go_enter Tryd.func91, Tryd.ntmps91; go_wp2; go_ret; exact ⟨by simp [npI, *], rfl⟩)
end Go.Proofs.YtocciemgdikmjaaDoor
