/-
  What one scan of the text does to the builder, plainly; cutting the text at a character changes nothing. No Go in sight.
-/
import Derived.Test.YtlplikpjnocdfaaDoorC1
import Derived.Test.YtlplikpjnocdfaaDoorB5
namespace Go.Proofs.YtlplikpjnocdfaaDoor
open Go.ChangeShapes Go.WideShapes Go.ChangeAt Go.RowKit
set_option linter.unusedVariables false
/-- the builder's state -/
structure US where
  buf : List Int
  gl : Int
  gcol : Int
  si : Int
  ol : Int
  oc : Int
  on : Int
  hn : Bool
  gen : Int
  hp : Bool
  ls : Bool
/-- the byte that is looked at for the comma -/
def lastB (xs : List Int) : Int := xs.getLastD 0
/-- the mapping ahead said once more -/
def again (S : US) : US := if S.ls = false ∧ S.hp = true then { S with buf := S.buf ++ cma (lastB S.buf) ++ seg4 (0 - S.gcol) 0 0 0, gcol := 0, hn := false, hp := true } else S
/-- a line ends -/
def brk (S : US) : US := let T := again S; { T with buf := T.buf ++ [59], gl := T.gl + 1, gcol := 0, gen := 0, ls := false }
def isNL (c : Nat) : Bool := decide (c = 13 ∨ c = 10 ∨ c = 8232 ∨ c = 8233)
/-- one rune; x: it is a CR ahead of an LF -/
def stp (S : US) (c : Nat) (x : Bool) : US :=
  if x = true then S else if isNL c = true then brk S else { S with gen := S.gen + (if c ≤ 65535 then 1 else 2) }
/-- is it a CR ahead of an LF? (o: the whole text; at place i) -/
def crlf (o : List Int) (i : Nat) (c : Nat) : Bool := decide (c = 13 ∧ i + 1 < o.length ∧ nb o (i + 1) = 10)
/-- the scan of o from place i on -/
def scanF (o : List Int) : Nat → Nat → US → US
  | 0, _, S => S
  | f + 1, i, S => if i < o.length then scanF o f (i + (dz o i).2) (stp S (dz o i).1 (crlf o i (dz o i).1)) else S
def scan (o : List Int) (i : Nat) (S : US) : US := scanF o (o.length - i) i S
theorem scanF_more (o : List Int) : ∀ (f g i : Nat) (S : US), o.length - i ≤ f → o.length - i ≤ g → scanF o f i S = scanF o g i S := by
  intro f
  induction f with
  | zero =>
    intro g i S hf hg
    cases g with
    | zero => rfl
    | succ g => rw [scanF, scanF, if_neg (by omega)]
  | succ f ih =>
    intro g i S hf hg
    cases g with
    | zero => rw [scanF, scanF, if_neg (by omega)]
    | succ g =>
      rw [scanF, scanF]
      by_cases h : i < o.length
      · rw [if_pos h, if_pos h]
        have := dz_w o i
        exact ih g _ _ (by omega) (by omega)
      · rw [if_neg h, if_neg h]
theorem scan_step (o : List Int) (i : Nat) (S : US) (h : i < o.length) : scan o i S = scan o (i + (dz o i).2) (stp S (dz o i).1 (crlf o i (dz o i).1)) := by
  unfold scan
  obtain ⟨f, hf⟩ : ∃ f, o.length - i = f + 1 := ⟨o.length - i - 1, by omega⟩
  rw [hf, scanF, if_pos h]
  have := dz_w o i
  exact scanF_more o _ _ _ _ (by omega) (by omega)
theorem scan_end (o : List Int) (i : Nat) (S : US) (h : o.length ≤ i) : scan o i S = S := by
  unfold scan
  rw [show o.length - i = 0 by omega]
  rfl
/-- k is a place where a character begins (or the end), seen from i -/
inductive Bnd (o : List Int) (k : Nat) : Nat → Prop
  | here : Bnd o k k
  | step (i : Nat) : i < k → Bnd o k (i + (dz o i).2) → Bnd o k i
theorem Bnd.le {o : List Int} {k i : Nat} (h : Bnd o k i) : i ≤ k := by
  induction h with
  | here => omega
  | step i hi _ ih => omega
theorem crlf_take (o : List Int) (k i c : Nat) (hk : k ≤ o.length) (hi : i < k) (hc : c = 13 → nb o i = 13) (hx : ¬ (0 < k ∧ k < o.length ∧ nb o (k - 1) = 13 ∧ nb o k = 10)) : crlf (o.take k) i c = crlf o i c := by
  unfold crlf
  have hl : (o.take k).length = k := by simp; omega
  rw [hl]
  by_cases h1 : i + 1 < k
  · rw [nb_take o k _ h1]
    congr 1
    simp only [eq_iff_iff]
    constructor
    · rintro ⟨a, b, c⟩; exact ⟨a, by omega, c⟩
    · rintro ⟨a, b, c⟩; exact ⟨a, h1, c⟩
  · have e : i + 1 = k := by omega
    have f1 : decide (c = 13 ∧ i + 1 < k ∧ nb (o.take k) (i + 1) = 10) = false := by simp; omega
    have f2 : decide (c = 13 ∧ i + 1 < o.length ∧ nb o (i + 1) = 10) = false := by
      rw [decide_eq_false_iff_not]
      rintro ⟨a, b, d⟩
      apply hx
      rw [e] at b d
      exact ⟨by omega, b, by rw [show k - 1 = i by omega]; exact hc a, d⟩
    rw [f1, f2]
/-- the scan in two goes -/
theorem scan_cut (o : List Int) (k : Nat) (hk : k ≤ o.length) (hx : ¬ (0 < k ∧ k < o.length ∧ nb o (k - 1) = 13 ∧ nb o k = 10)) {i : Nat} (hb : Bnd o k i) : ∀ S, scan o k (scan (o.take k) i S) = scan o i S := by
  have hl : (o.take k).length = k := by simp; omega
  induction hb with
  | here =>
    intro S
    rw [scan_end (o.take k) k S (by omega)]
  | step i hi hb ih =>
    intro S
    have hw := hb.le
    have ht := dz_take o k i hk hi hw
    rw [scan_step (o.take k) i S (by omega), ht, crlf_take o k i _ hk hi ?_ hx, ih, ← scan_step o i S (by omega)]
    intro h13
    exact (zd_13 _ _ _ _ _ h13).1
end Go.Proofs.YtlplikpjnocdfaaDoor
