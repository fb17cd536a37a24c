/-
  The tracker of lines and columns in memory.
-/
import Derived.Test.YtocciemgdikmjaaDoorS1
import Derived.BigRegion
namespace Go.Proofs.YtocciemgdikmjaaDoor
open Go.ChangeShapes Go.WideShapes Go.ChangeAt Go.RowKit
open Go.Lib (decodeN decode_at decodeGo)
set_option linter.unusedVariables false
/-- the tracker's cells, in the lexer's block -/
structure TK (w : World) (g : Nat) (s : ByteArray) (off ln ls le : Int) (hs he : Bool) : Prop where
  lt : g < w.heap.size
  c22 : w.cell? ⟨g, 22, none⟩ = some (.string s)
  c23 : w.cell? ⟨g, 23, none⟩ = some (.string ⟨#[]⟩)
  c24 : w.cell? ⟨g, 24, none⟩ = some (.string ⟨#[]⟩)
  c25 : w.cell? ⟨g, 25, none⟩ = some (.int .i32 off)
  c26 : w.cell? ⟨g, 26, none⟩ = some (.int .i32 ln)
  c27 : w.cell? ⟨g, 27, none⟩ = some (.int .i32 ls)
  c28 : w.cell? ⟨g, 28, none⟩ = some (.int .i32 le)
  c29 : w.cell? ⟨g, 29, none⟩ = some (.bool hs)
  c30 : w.cell? ⟨g, 30, none⟩ = some (.bool he)
  c31 : w.cell? ⟨g, 31, none⟩ = some (.bool true)
  fz : ∀ i, w.frozen? ⟨g, i, none⟩ = false
section
variable {w w' : World} {g : Nat} {s : ByteArray} {off ln ls le : Int} {hs he : Bool}
theorem TK.keep (h : TK w g s off ln ls le hs he) (hb : Below w.heap.size w w') : TK w' g s off ln ls le hs he :=
  ⟨Nat.lt_of_lt_of_le h.lt hb.size, by rw [hb.cell h.lt]; exact h.c22, by rw [hb.cell h.lt]; exact h.c23, by rw [hb.cell h.lt]; exact h.c24, by rw [hb.cell h.lt]; exact h.c25, by rw [hb.cell h.lt]; exact h.c26, by rw [hb.cell h.lt]; exact h.c27, by rw [hb.cell h.lt]; exact h.c28, by rw [hb.cell h.lt]; exact h.c29, by rw [hb.cell h.lt]; exact h.c30, by rw [hb.cell h.lt]; exact h.c31, fun i => by rw [hb.frozen h.lt]; exact h.fz i⟩
theorem TK.drew (h : TK w g s off ln ls le hs he) : TK w.drew g s off ln ls le hs he := ⟨h.lt, h.c22, h.c23, h.c24, h.c25, h.c26, h.c27, h.c28, h.c29, h.c30, h.c31, h.fz⟩
theorem TK.set25 (h : TK w g s off ln ls le hs he) (v : Int) : TK (w.setCell ⟨g, 25, none⟩ (.int .i32 v)) g s v ln ls le hs he :=
  ⟨by simpa using h.lt, by rw [cell_set_ne _ _ _ _ _ (by omega)]; exact h.c22, by rw [cell_set_ne _ _ _ _ _ (by omega)]; exact h.c23, by rw [cell_set_ne _ _ _ _ _ (by omega)]; exact h.c24, World.cell?_setCell_same _ _ _ h.c25, by rw [cell_set_ne _ _ _ _ _ (by omega)]; exact h.c26, by rw [cell_set_ne _ _ _ _ _ (by omega)]; exact h.c27, by rw [cell_set_ne _ _ _ _ _ (by omega)]; exact h.c28, by rw [cell_set_ne _ _ _ _ _ (by omega)]; exact h.c29, by rw [cell_set_ne _ _ _ _ _ (by omega)]; exact h.c30, by rw [cell_set_ne _ _ _ _ _ (by omega)]; exact h.c31, fun i => by simpa using h.fz i⟩
theorem TK.set26 (h : TK w g s off ln ls le hs he) (v : Int) : TK (w.setCell ⟨g, 26, none⟩ (.int .i32 v)) g s off v ls le hs he :=
  ⟨by simpa using h.lt, by rw [cell_set_ne _ _ _ _ _ (by omega)]; exact h.c22, by rw [cell_set_ne _ _ _ _ _ (by omega)]; exact h.c23, by rw [cell_set_ne _ _ _ _ _ (by omega)]; exact h.c24, by rw [cell_set_ne _ _ _ _ _ (by omega)]; exact h.c25, World.cell?_setCell_same _ _ _ h.c26, by rw [cell_set_ne _ _ _ _ _ (by omega)]; exact h.c27, by rw [cell_set_ne _ _ _ _ _ (by omega)]; exact h.c28, by rw [cell_set_ne _ _ _ _ _ (by omega)]; exact h.c29, by rw [cell_set_ne _ _ _ _ _ (by omega)]; exact h.c30, by rw [cell_set_ne _ _ _ _ _ (by omega)]; exact h.c31, fun i => by simpa using h.fz i⟩
theorem TK.set27 (h : TK w g s off ln ls le hs he) (v : Int) : TK (w.setCell ⟨g, 27, none⟩ (.int .i32 v)) g s off ln v le hs he :=
  ⟨by simpa using h.lt, by rw [cell_set_ne _ _ _ _ _ (by omega)]; exact h.c22, by rw [cell_set_ne _ _ _ _ _ (by omega)]; exact h.c23, by rw [cell_set_ne _ _ _ _ _ (by omega)]; exact h.c24, by rw [cell_set_ne _ _ _ _ _ (by omega)]; exact h.c25, by rw [cell_set_ne _ _ _ _ _ (by omega)]; exact h.c26, World.cell?_setCell_same _ _ _ h.c27, by rw [cell_set_ne _ _ _ _ _ (by omega)]; exact h.c28, by rw [cell_set_ne _ _ _ _ _ (by omega)]; exact h.c29, by rw [cell_set_ne _ _ _ _ _ (by omega)]; exact h.c30, by rw [cell_set_ne _ _ _ _ _ (by omega)]; exact h.c31, fun i => by simpa using h.fz i⟩
theorem TK.set28 (h : TK w g s off ln ls le hs he) (v : Int) : TK (w.setCell ⟨g, 28, none⟩ (.int .i32 v)) g s off ln ls v hs he :=
  ⟨by simpa using h.lt, by rw [cell_set_ne _ _ _ _ _ (by omega)]; exact h.c22, by rw [cell_set_ne _ _ _ _ _ (by omega)]; exact h.c23, by rw [cell_set_ne _ _ _ _ _ (by omega)]; exact h.c24, by rw [cell_set_ne _ _ _ _ _ (by omega)]; exact h.c25, by rw [cell_set_ne _ _ _ _ _ (by omega)]; exact h.c26, by rw [cell_set_ne _ _ _ _ _ (by omega)]; exact h.c27, World.cell?_setCell_same _ _ _ h.c28, by rw [cell_set_ne _ _ _ _ _ (by omega)]; exact h.c29, by rw [cell_set_ne _ _ _ _ _ (by omega)]; exact h.c30, by rw [cell_set_ne _ _ _ _ _ (by omega)]; exact h.c31, fun i => by simpa using h.fz i⟩
theorem TK.set29 (h : TK w g s off ln ls le hs he) (v : Bool) : TK (w.setCell ⟨g, 29, none⟩ (.bool v)) g s off ln ls le v he :=
  ⟨by simpa using h.lt, by rw [cell_set_ne _ _ _ _ _ (by omega)]; exact h.c22, by rw [cell_set_ne _ _ _ _ _ (by omega)]; exact h.c23, by rw [cell_set_ne _ _ _ _ _ (by omega)]; exact h.c24, by rw [cell_set_ne _ _ _ _ _ (by omega)]; exact h.c25, by rw [cell_set_ne _ _ _ _ _ (by omega)]; exact h.c26, by rw [cell_set_ne _ _ _ _ _ (by omega)]; exact h.c27, by rw [cell_set_ne _ _ _ _ _ (by omega)]; exact h.c28, World.cell?_setCell_same _ _ _ h.c29, by rw [cell_set_ne _ _ _ _ _ (by omega)]; exact h.c30, by rw [cell_set_ne _ _ _ _ _ (by omega)]; exact h.c31, fun i => by simpa using h.fz i⟩
theorem TK.set30 (h : TK w g s off ln ls le hs he) (v : Bool) : TK (w.setCell ⟨g, 30, none⟩ (.bool v)) g s off ln ls le hs v :=
  ⟨by simpa using h.lt, by rw [cell_set_ne _ _ _ _ _ (by omega)]; exact h.c22, by rw [cell_set_ne _ _ _ _ _ (by omega)]; exact h.c23, by rw [cell_set_ne _ _ _ _ _ (by omega)]; exact h.c24, by rw [cell_set_ne _ _ _ _ _ (by omega)]; exact h.c25, by rw [cell_set_ne _ _ _ _ _ (by omega)]; exact h.c26, by rw [cell_set_ne _ _ _ _ _ (by omega)]; exact h.c27, by rw [cell_set_ne _ _ _ _ _ (by omega)]; exact h.c28, by rw [cell_set_ne _ _ _ _ _ (by omega)]; exact h.c29, World.cell?_setCell_same _ _ _ h.c30, by rw [cell_set_ne _ _ _ _ _ (by omega)]; exact h.c31, fun i => by simpa using h.fz i⟩
/-- of the lexer's block only the tracker's numbers may have turned; of all else nothing -/
structure Trk (w w' : World) (g : Nat) : Prop where
  by_ : w.grownBy w' (some g)
  cells : ∀ i, i < 25 ∨ 30 < i → w'.cell? ⟨g, i, none⟩ = w.cell? ⟨g, i, none⟩
theorem Trk.refl (w : World) (g : Nat) : Trk w w g := ⟨⟨rfl, rfl, rfl, Nat.le_refl _, fun _ _ _ => rfl⟩, fun _ _ => rfl⟩
theorem Trk.below {w w1 w2 : World} (h : Trk w w1 g) (hb : Below w1.heap.size w1 w2) (hg : g < w1.heap.size) : Trk w w2 g :=
  ⟨⟨hb.os.trans h.by_.os, hb.tape.trans h.by_.tape, hb.output.trans h.by_.output, Nat.le_trans h.by_.size hb.size, fun k hk hn => (hb.block k (Nat.lt_of_lt_of_le hk h.by_.size)).trans (h.by_.block k hk hn)⟩, fun i a => by rw [hb.cell hg]; exact h.cells i a⟩
theorem Trk.drew {w w1 : World} (h : Trk w w1 g) : Trk w w1.drew g := ⟨⟨h.by_.os, h.by_.tape, h.by_.output, h.by_.size, h.by_.block⟩, h.cells⟩
theorem Trk.set {w w1 : World} (h : Trk w w1 g) (j : Nat) (v : Value) (h1 : 25 ≤ j) (h2 : j ≤ 30) : Trk w (w1.setCell ⟨g, j, none⟩ v) g :=
  ⟨⟨h.by_.os, h.by_.tape, h.by_.output, by simpa [World.setCell] using h.by_.size, fun k hi hne => (Below.heap_setCell w1 ⟨g, j, none⟩ v k (by rintro rfl; exact hne rfl)).trans (h.by_.block k hi hne)⟩,
   fun i a => by rw [cell_set_ne _ _ _ _ _ (by omega)]; exact h.cells i a⟩
end
end Go.Proofs.YtocciemgdikmjaaDoor
