/-
  Three states in memory; the export on a nil buffer.
-/
import Derived.Test.YtbigamkmkmfdfaaDoorM6
namespace Go.Proofs.YtbigamkmkmfdfaaDoor
open Go.ChangeShapes Go.WideShapes Go.ChangeAt Go.RowKit
set_option linter.unusedVariables false
theorem cells7 {w : World} {k : Nat} {g c s l o n : Int} {b : Bool} {T : TypeId} {fl : Nat × Nat} (h : w.heap[k]? = some (Obj.cells (stV g c s l o n b) T fl)) :
    w.cell? ⟨k, 0, none⟩ = some (.int .i64 g) ∧ w.cell? ⟨k, 1, none⟩ = some (.int .i64 c) ∧ w.cell? ⟨k, 2, none⟩ = some (.int .i64 s) ∧ w.cell? ⟨k, 3, none⟩ = some (.int .i64 l) ∧ w.cell? ⟨k, 4, none⟩ = some (.int .i64 o) ∧ w.cell? ⟨k, 5, none⟩ = some (.int .i64 n) ∧ w.cell? ⟨k, 6, none⟩ = some (.bool b) := by
  refine ⟨?_, ?_, ?_, ?_, ?_, ?_, ?_⟩ <;> (simp only [World.cell?, h]; rfl)
/-- a state lies in block k -/
structure Box (w : World) (k : Nat) (g c s l o n : Int) (b : Bool) (T : TypeId) : Prop where
  at_ : w.heap[k]? = some (Obj.cells (stV g c s l o n b) T (0, 0))
section
variable {w w' : World} {k : Nat} {g c s l o n : Int} {b : Bool} {T : TypeId}
theorem Box.lt (h : Box w k g c s l o n b T) : k < w.heap.size := (Array.getElem?_eq_some_iff.1 h.at_).1
theorem Box.keep (h : Box w k g c s l o n b T) (hb : Below w.heap.size w w') : Box w' k g c s l o n b T := ⟨by rw [hb.block k h.lt]; exact h.at_⟩
theorem Box.alloc (h : Box w k g c s l o n b T) (ob : Obj) : Box (w.alloc ob) k g c s l o n b T := h.keep ((Below.refl _ _).alloc (Nat.le_refl _) _)
theorem Box.cells (h : Box w k g c s l o n b T) : w.cell? ⟨k, 0, none⟩ = some (.int .i64 g) ∧ w.cell? ⟨k, 1, none⟩ = some (.int .i64 c) ∧ w.cell? ⟨k, 2, none⟩ = some (.int .i64 s) ∧ w.cell? ⟨k, 3, none⟩ = some (.int .i64 l) ∧ w.cell? ⟨k, 4, none⟩ = some (.int .i64 o) ∧ w.cell? ⟨k, 5, none⟩ = some (.int .i64 n) ∧ w.cell? ⟨k, 6, none⟩ = some (.bool b) := cells7 h.at_
theorem Box.new (w : World) (g c s l o n : Int) (b : Bool) (T : TypeId) : Box (w.alloc (Obj.cells (stV g c s l o n b) T)) w.heap.size g c s l o n b T := ⟨heap_alloc_new w _⟩
end
/-- the table, wherever it lies, in a world behind -/
theorem Tab.keep {w w' : World} {R o c : Nat} (h : Tab w R o c) (hb : Below w.heap.size w w') : Tab w' R o c := ((TabB.of h).below hb).tab
theorem zzN (w : World) (lb : Int) (om hn : Bool) (p0 p1 p2 p3 p4 p5 : Int) (ph : Bool) (c0 c1 c2 c3 c4 c5 : Int) (R o cc : Nat) (hT : Tab w R o cc) (hok : Ok5 p1 p2 p3 p4 p5 c1 c2 c3 c4 c5) (I : Int) (XS : List Int)
    (hI : nameI [] lb om hn (c1 - p1) (c2 - p2) (c3 - p3) (c4 - p4) = I) (hX : outM [] lb om hn (c1 - p1) (c2 - p2) (c3 - p3) (c4 - p4) (c5 - p5) = XS) :
    Calls Tryd.prog 19 #[.slice none 0 0, .int .u8 lb, .agg (stV p0 p1 p2 p3 p4 p5 ph), .agg (stV c0 c1 c2 c3 c4 c5 hn), .bool om] w fun e w' => (∃ v', e = .returned (.tuple #[v', .agg #[.int .u32 I]]) ∧ OwnB w' w.heap.size v' XS) ∧ Below w.heap.size w w' :=
  (zz19 w w.heap.size (.slice none 0 0) [] lb om hn p0 p1 p2 p3 p4 p5 ph c0 c1 c2 c3 c4 c5 R o cc (World.ownsRow_nil _ _ _ _) (Nat.le_refl _) (TabB.of hT) (by simp) hok I XS (Lib.hid hI) (Lib.hid hX)).mono fun e w' ⟨h1, h2, _⟩ => ⟨h1, h2⟩
end Go.Proofs.YtbigamkmkmfdfaaDoor
