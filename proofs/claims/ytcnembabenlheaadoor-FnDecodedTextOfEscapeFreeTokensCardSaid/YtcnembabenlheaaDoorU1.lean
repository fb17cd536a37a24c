/-
  Rows of UTF-16 units that the code owns.
-/
import Derived.Test.YtcnembabenlheaaDoorRow
namespace Go.Proofs.YtcnembabenlheaaDoor
open Go.ChangeShapes Go.WideShapes Go.ChangeAt Go.RowKit
set_option linter.unusedVariables false
theorem infoU : (Tryd.prog.info? 30).map (fun i => (i.zero, i.size, i.bytes)) = some (some (.int .u16 0), 1, 2) := by kernel_rfl
theorem sizeU : (Tryd.prog.info? 30).map (·.size) = some 1 := by kernel_rfl
@[go_sem] theorem eqnilU (w : World) (a : Option Addr) (n c : Nat) : (binOp .eql 29 (.slice a n c) (.slice none 0 0)).run Tryd.prog w = .ok (.bool a.isNone) w := Lib.run_eql_slice_nil w 29 30 a n c 0 0 Tryd.underlying29
/-- the bytes xs, as cells -/
def cellsU (xs : List Int) : List Value := xs.map (Value.int .u16)
theorem cellsU_len (xs : List Int) : (cellsU xs).length = xs.length := by simp [cellsU]
theorem cellsU_app (xs ys : List Int) : cellsU (xs ++ ys) = cellsU xs ++ cellsU ys := by simp [cellsU]
theorem cellsU_one (xs : List Int) : ∀ u ∈ cellsU xs, u.oneCell' = true := ints_oneCell .u16 xs
theorem cellsU_get (xs : List Int) (j : Nat) (u : Value) (h : (cellsU xs)[j]? = some u) : j < xs.length ∧ u = .int .u16 (xs.getD j 0) := by
  have hj : j < xs.length := by have := (List.getElem?_eq_some_iff.1 h).1; simpa [cellsU] using this
  refine ⟨hj, ?_⟩
  rw [cellsU, List.getElem?_map, List.getElem?_eq_getElem hj] at h
  simp at h
  rw [← h]; simp [List.getD, hj]
/-- v is a slice of the code's own (its block is B or later) that holds the bytes xs -/
def OwnU (w : World) (B : Nat) (v : Value) (xs : List Int) : Prop := w.ownsRow B 30 1 v xs.length (cellsU xs)
theorem OwnU.out {w : World} {B : Nat} {v : Value} {xs : List Int} (h : OwnU w B v xs) : w.ownsRow B 30 1 v xs.length (cellsU xs) := h
/-- v is a slice that holds the bytes xs -/
def Units (w : World) (v : Value) (xs : List Int) : Prop := ∃ p c, v = .slice p xs.length c ∧ xs.length ≤ c ∧ ∀ i, i < xs.length → ∃ a, p = some a ∧ w.cell? (a.add i) = some (.int .u16 (xs.getD i 0))
theorem OwnU.units {w : World} {B : Nat} {v : Value} {xs : List Int} (h : OwnU w B v xs) : Units w v xs := by
  rcases h with ⟨hl, ⟨rfl, h0⟩ | ⟨g, cap, cur, rfl, hB, hg, hn, hm, hs, ht⟩⟩
  · refine ⟨none, 0, by rw [h0], by omega, fun i hi => absurd hi (by omega)⟩
  · refine ⟨some ⟨g, 0, none⟩, cap, rfl, hn, fun i hi => ⟨_, rfl, ?_⟩⟩
    have e : (cellsU xs)[i]? = some (.int .u16 (xs.getD i 0)) := by simp [cellsU, List.getD, hi]
    rw [← ht, Nat.mul_one, List.getElem?_take, if_pos hi] at e
    rw [Addr.add_lit]
    simp only [World.cell?, hg, Nat.zero_add]
    simpa using e
theorem OwnU.keep {w w' : World} {B : Nat} {v : Value} {xs : List Int} (h : OwnU w B v xs) (hb : Below w.heap.size w w') : OwnU w' B v xs := by
  rcases h with ⟨hl, h0 | ⟨g, cap, cur, rfl, hB, hg, hr⟩⟩
  · exact ⟨hl, Or.inl h0⟩
  · refine ⟨hl, Or.inr ⟨g, cap, cur, rfl, hB, ?_, hr⟩⟩
    rw [hb.block g (by have := (Array.getElem?_eq_some_iff.1 hg).1; exact this)]
    exact hg
theorem OwnU.mono {w : World} {B B' : Nat} {v : Value} {xs : List Int} (h : OwnU w B v xs) (hb : B' ≤ B) : OwnU w B' v xs := by
  rcases h with ⟨hl, h0 | ⟨g, cap, cur, rfl, hB, hr⟩⟩
  · exact ⟨hl, Or.inl h0⟩
  · exact ⟨hl, Or.inr ⟨g, cap, cur, rfl, by omega, hr⟩⟩
theorem Units.keep {w w' : World} {v : Value} {xs : List Int} (h : Units w v xs) (hb : Below w.heap.size w w') : Units w' v xs := by
  obtain ⟨p, c, e, hc, hi⟩ := h
  refine ⟨p, c, e, hc, fun i h => ?_⟩
  obtain ⟨a, ha, hc⟩ := hi i h
  exact ⟨a, ha, by rw [hb.cell (block_lt_of_cell hc)]; exact hc⟩
theorem below_grown {w w' : World} {row : Option Nat} (h : w.grownBy w' row) (B : Nat) (hB : B ≤ w.heap.size) (hr : ∀ k, row = some k → B ≤ k) : Below B w w' :=
  ⟨h.os, h.tape, h.output, h.size, fun k hk => h.block k (by omega) (fun e => by have := hr k e.symm; omega)⟩
theorem IsRow.units {w : World} {a : Option Addr} {len cap : Nat} {z : List Int} (h : IsRow .u16 w a len cap z) : Units w (.slice a len cap) (z.take len) ∧ (z.take len).length = len := by
  rcases h with ⟨rfl, rfl, rfl, rfl⟩ | ⟨x, rfl, h1, h2, h3, h4, h5⟩
  · exact ⟨⟨none, 0, rfl, by simp, fun i hi => absurd hi (by simp)⟩, rfl⟩
  · have hl : (z.take len).length = len := by simp; omega
    refine ⟨⟨some x, cap, by rw [hl], by omega, fun i hi => ⟨x, rfl, ?_⟩⟩, hl⟩
    rw [h4 i (by omega)]
    simp [List.getD, show i < len by omega]
end Go.Proofs.YtcnembabenlheaaDoor
