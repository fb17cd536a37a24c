/-
  The row of tokens, plainly: the places at which they begin, their cells.
-/
import Derived.Test.YtocciemgdikmjaaDoorC4
import Derived.Laws.AppendOwn
namespace Go.Proofs.YtocciemgdikmjaaDoor
open Go.Lib (decodeN decode_at decodeGo)
set_option linter.unusedVariables false
/-- the place at which token j begins, the first at p -/
def pos (s : ByteArray) (p : Nat) : Nat → Nat
  | 0 => p
  | j + 1 => (tok s (pos s p j)).e
def tkA (s : ByteArray) (p : Nat) : List Value := [.int .i32 (p : Nat), .int .i32 (((tok s p).e : Int) - (p : Int)), .int .u16 (tok s p).u, .int .u8 (tok s p).k, .int .u8 (tok s p).f]
def tkC (s : ByteArray) (p : Nat) : Nat → List Value
  | 0 => []
  | j + 1 => tkC s p j ++ tkA s (pos s p j)
theorem tkA_len (s : ByteArray) (p : Nat) : (tkA s p).length = 5 := rfl
theorem tkC_len (s : ByteArray) (p : Nat) : ∀ j, (tkC s p j).length = j * 5
  | 0 => rfl
  | j + 1 => by rw [tkC, List.length_append, tkC_len s p j, tkA_len]; omega
theorem tkC_get (s : ByteArray) (p i d : Nat) (hd : d < 5) : ∀ j, i < j → (tkC s p j)[i * 5 + d]? = (tkA s (pos s p i))[d]?
  | 0, h => by omega
  | j + 1, h => by
    have hl := tkC_len s p j
    by_cases hij : i = j
    · subst hij
      rw [tkC, List.getElem?_append_right (by omega)]
      congr 1
      omega
    · rw [tkC, List.getElem?_append_left (by omega)]
      exact tkC_get s p i d hd j (by omega)
theorem row_cell {w : World} {b e size n : Nat} {a : Option Addr} {c : Nat} {xs : List Value} (h : w.ownsRow b e size (.slice a n c) n xs) (hn : n ≠ 0) : ∃ g, a = some ⟨g, 0, none⟩ ∧ b ≤ g ∧ g < w.heap.size ∧ (∀ j, j < n * size → w.cell? ⟨g, j, none⟩ = xs[j]?) := by
  obtain ⟨hl, ⟨_, h2⟩ | ⟨g, cap, cur, hv, hb, hg, h1, h2, h3, h4⟩⟩ := h
  · exact absurd h2 hn
  · injection hv with e1 e2 e3
    subst e1
    refine ⟨g, rfl, hb, ?_, fun j hj => ?_⟩
    · by_cases hx : g < w.heap.size
      · exact hx
      · rw [Array.getElem?_eq_none (by omega)] at hg; cases hg
    · rw [← h4, List.getElem?_take_of_lt hj]
      simp [World.cell?, hg]
theorem row_slice {w : World} {b e size n : Nat} {v : Value} {xs : List Value} (h : w.ownsRow b e size v n xs) : ∃ a c, v = .slice a n c := by
  obtain ⟨_, ⟨h1, h2⟩ | ⟨g, cap, cur, hv, _⟩⟩ := h
  · exact ⟨none, 0, by rw [h1, h2]⟩
  · exact ⟨some ⟨g, 0, none⟩, cap, hv⟩
theorem pos_le {s : ByteArray} (hD : Dom s) (p : Nat) (hp : p ≤ s.size) : ∀ j, (∀ i, i < j → pos s p i < s.size) → pos s p j ≤ s.size
  | 0, _ => hp
  | j + 1, h => (tok_ok hD (pos s p j) (h j (by omega))).e2
end Go.Proofs.YtocciemgdikmjaaDoor
