/-
  The css lexer at a place, its newlines counted from where it began; step.
-/
import Derived.Test.YtocciemgdikmjaaDoorS0
namespace Go.Proofs.YtocciemgdikmjaaDoor
open Go.ChangeShapes Go.WideShapes Go.ChangeAt Go.RowKit
open Go.Lib (decodeN decode_at decodeGo)
set_option linter.unusedVariables false
/-- the lexer stands at place p of s, its token began at st; of its newlines only a bound is said -/
def An (w : World) (g : Nat) (s : ByteArray) (p st : Nat) : Prop := ∃ nl : Nat, nl ≤ p + 1 ∧ CL w g s (nl : Nat) (p + wid s p : Nat) (cpOf s p) st ((p : Int) - (st : Int))
theorem An.keep {w w' : World} {g : Nat} {s : ByteArray} {p st : Nat} (h : An w g s p st) (hb : Below w.heap.size w w') : An w' g s p st := by
  obtain ⟨nl, h1, h2⟩ := h
  exact ⟨nl, h1, h2.keep hb⟩
theorem An.drew {w : World} {g : Nat} {s : ByteArray} {p st : Nat} (h : An w g s p st) : An w.drew g s p st := by
  obtain ⟨nl, h1, h2⟩ := h
  exact ⟨nl, h1, h2.drew⟩
theorem An.lt {w : World} {g : Nat} {s : ByteArray} {p st : Nat} (h : An w g s p st) : g < w.heap.size := by
  obtain ⟨nl, h1, h2⟩ := h
  exact h2.lt
theorem cp_m1 (s : ByteArray) (p : Nat) (h : p ≤ s.size) (e : cpOf s p = -1) : p = s.size := by
  by_cases hp : p < s.size
  · exfalso
    have hw := wid_pos s p hp
    unfold wid at hw
    unfold cpOf at e
    rw [if_neg (by omega)] at e
    omega
  · omega
theorem step_an (w : World) (g : Nat) (s : ByteArray) (p st : Nat) (h : An w g s p st) (hT : Lib.Utf8Tabs 0 1 w) (hp : p ≤ s.size) (hs : s.size ≤ 1048576) (hst : st ≤ p) :
    Calls Tryd.prog 54 #[.pointer (some ⟨g, 0, none⟩)] w fun e w' => e = .returned (.tuple #[]) ∧ An w' g s (p + wid s p) st ∧ Stepped w w' g := by
  obtain ⟨nl, hn, hc⟩ := h
  have h1 := wid_le s p hp
  refine (step_any w g s nl (p + wid s p) _ _ _ hc hT h1 hs (by omega) (by omega) (by omega) (by omega)).mono ?_
  rintro e w' ⟨rfl, hc', hs'⟩
  refine ⟨rfl, ⟨if cpOf s (p + wid s p) = 10 then nl + 1 else nl, ?_, ?_⟩, hs'⟩
  · split
    · rename_i h10
      have hw : wid s p ≠ 0 := by
        intro e
        have hps : p = s.size := by
          by_cases hq : p < s.size
          · have := wid_pos s p hq; omega
          · omega
        rw [e, Nat.add_zero, hps, cp_end] at h10
        omega
      omega
    · omega
  · have e2 : ((if cpOf s (p + wid s p) = 10 then nl + 1 else nl : Nat) : Int) = (if cpOf s (p + wid s p) = 10 then (nl : Int) + 1 else nl) := by split <;> simp
    rw [e2]
    exact hc'
theorem step_an0 (w : World) (g : Nat) (s : ByteArray) (st : Nat) (cp : Int) (h : CL w g s 0 st cp st 0) (hT : Lib.Utf8Tabs 0 1 w) (hp : st ≤ s.size) (hs : s.size ≤ 1048576) :
    Calls Tryd.prog 54 #[.pointer (some ⟨g, 0, none⟩)] w fun e w' => e = .returned (.tuple #[]) ∧ An w' g s st st ∧ Stepped w w' g := by
  refine (step_any w g s 0 st cp st 0 h hT hp hs (by omega) (by omega) (by omega) (by omega)).mono ?_
  rintro e w' ⟨rfl, hc', hs'⟩
  refine ⟨rfl, ⟨if cpOf s st = 10 then 1 else 0, by split <;> omega, ?_⟩, hs'⟩
  have e2 : ((if cpOf s st = 10 then 1 else 0 : Nat) : Int) = (if cpOf s st = 10 then (0 : Int) + 1 else 0) := by split <;> rfl
  rw [e2]
  exact hc'
end Go.Proofs.YtocciemgdikmjaaDoor
