/-
  What a walk is told of a slice of integers (the skeleton's own words, said once for all laws of the seat), and rows that this code made.
-/
import Derived.Test.YtnhefnccjlbeiaaB1
import Derived.Test.YtnhefnccjlbeiaaArrEq
import Derived.Laws.Rows
import Derived.Laws.AppendOwn
import Derived.RegionTactic
import Derived.OwnWalk
import Derived.Deep.OwnRows
import Derived.Below
namespace Go.Proofs.Ytnhefnccjlbeiaa
open Go.ChangeShapes Go.WideShapes Go.ChangeAt Go.RowKit
def IsRow (k : IntKind) (w : World) (a : Option Addr) (len cap : Nat) (zs : List Int) : Prop :=
  (a = none ∧ len = 0 ∧ cap = 0 ∧ zs = []) ∨
  ∃ x, a = some x ∧ len ≤ cap ∧ cap ≤ maxLen ∧ zs.length = cap ∧ (∀ i, i < zs.length → w.cell? (x.add i) = some (.int k (zs.getD i 0))) ∧ ∀ n ∈ zs, (Lit.int k n).wf = true
end Go.Proofs.Ytnhefnccjlbeiaa
