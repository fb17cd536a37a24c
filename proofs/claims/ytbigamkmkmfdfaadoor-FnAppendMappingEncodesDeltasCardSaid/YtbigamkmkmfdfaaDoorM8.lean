/-
  A state that is handed over by value (struct 39), opened to its seven fields.
-/
import Derived.Test.YtbigamkmkmfdfaaDoorM4
namespace Go.Proofs.YtbigamkmkmfdfaaDoor
open Go.ChangeShapes Go.WideShapes Go.ChangeAt Go.RowKit
set_option linter.unusedVariables false
theorem cells39 : Tryd.prog.cellsOf 39 = 7 := by kernel_rfl
theorem cells3 : Tryd.prog.cellsOf 3 = 1 := by kernel_rfl
theorem cells4 : Tryd.prog.cellsOf 4 = 1 := by kernel_rfl
section
variable {H : Type} {enc : TypeId × Value → H} {w : World} {base : Nat} {spare : Nat → Bool} {held : Bool}
theorem st_open {r : Reach} {b0 : Nat} {v : Value} {d : DataW H} {p : List MemPlace} (hv : Value.okWide Tryd.prog w r b0 39 v) (h : DataW.Trod enc Tryd.prog w base spare held 39 v d p) :
    ∃ g c s l o n b, v = .agg (stV g c s l o n b) := by
  have hu := Tryd.underlying39
  obtain ⟨cs, rfl, hsz, _⟩ : ∃ cs, v = .agg cs ∧ cs.size = Tryd.prog.cellsOf 39 ∧ Row.okWide Tryd.prog w r b0 39 cs := by simpa [Value.okWide, hu] using hv
  obtain ⟨fuel, hf⟩ := h
  obtain ⟨xs, m, _, hx, hcl, hxl, hel⟩ := DataW.trod_struct hu hf
  rw [cells39] at hsz
  have one : ∀ i (hi : i < 7), ((Value.agg cs).cells.toList.drop i).take 1 = [cs[i]'(by omega)] := by
    intro i hi
    simp only [Value.cells]
    rw [List.drop_eq_getElem_cons (by simp; omega)]
    simp
  have hxs : xs.length = 7 := by rw [hxl]; rfl
  have gi : ∀ (i : Nat) (hi : i < 7) (t : TypeId), Tryd.prog.cellsOf t = 1 → DataW.trod enc Tryd.prog w base spare held m t (((Value.agg cs).cells.toList.drop i).take (Tryd.prog.cellsOf t)) = xs[i]? → ∃ y, DataW.trod enc Tryd.prog w base spare held m t [cs[i]'(by omega)] = some y := by
    intro i hi t hct h
    rw [hct, one i hi, List.getElem?_eq_getElem (by omega)] at h
    exact ⟨_, h⟩
  have int : ∀ (i : Nat) (hi : i < 7) (y : DataW H × List MemPlace), DataW.trod enc Tryd.prog w base spare held m 3 [cs[i]'(by omega)] = some y → ∃ z, cs[i]'(by omega) = .int .i64 z := by
    intro i hi y h
    obtain ⟨z, e, _, _⟩ := DataW.trod_int Tryd.underlying3 h
    exact ⟨z, by simpa using e⟩
  obtain ⟨y0, g0⟩ := gi 0 (by omega) 3 cells3 (hel 0 _ rfl)
  obtain ⟨y1, g1⟩ := gi 1 (by omega) 3 cells3 (hel 1 _ rfl)
  obtain ⟨y2, g2⟩ := gi 2 (by omega) 3 cells3 (hel 2 _ rfl)
  obtain ⟨y3, g3⟩ := gi 3 (by omega) 3 cells3 (hel 3 _ rfl)
  obtain ⟨y4, g4⟩ := gi 4 (by omega) 3 cells3 (hel 4 _ rfl)
  obtain ⟨y5, g5⟩ := gi 5 (by omega) 3 cells3 (hel 5 _ rfl)
  obtain ⟨y6, g6⟩ := gi 6 (by omega) 4 cells4 (hel 6 _ rfl)
  obtain ⟨z0, e0⟩ := int 0 (by omega) _ g0
  obtain ⟨z1, e1⟩ := int 1 (by omega) _ g1
  obtain ⟨z2, e2⟩ := int 2 (by omega) _ g2
  obtain ⟨z3, e3⟩ := int 3 (by omega) _ g3
  obtain ⟨z4, e4⟩ := int 4 (by omega) _ g4
  obtain ⟨z5, e5⟩ := int 5 (by omega) _ g5
  obtain ⟨b, e6, _⟩ := DataW.trod_bool Tryd.underlying4 g6
  have e6' : cs[6]'(by omega) = .bool b := by simpa using e6
  refine ⟨z0, z1, z2, z3, z4, z5, b, ?_⟩
  congr 1
  apply Array.ext
  · simp [hsz]
  · intro i h1 h2
    have : i = 0 ∨ i = 1 ∨ i = 2 ∨ i = 3 ∨ i = 4 ∨ i = 5 ∨ i = 6 := by omega
    rcases this with rfl | rfl | rfl | rfl | rfl | rfl | rfl
    · exact e0
    · exact e1
    · exact e2
    · exact e3
    · exact e4
    · exact e5
    · exact e6'
end
end Go.Proofs.YtbigamkmkmfdfaaDoor
