/-
  What a walk is told of a slice of integers (the skeleton's own words, said once for all laws of the seat).
-/
import Derived.Test.YtlplikpjnocdfaaDoorTabs
import Derived.WalkKit
import Derived.ProofKit
import Derived.OpenShut
import Derived.Lib.Hide
import Derived.Lib.SliceRun
import Derived.Outline
import Derived.WalkLawsBesides
import Derived.Laws.Tables
import Derived.Great.BuildSlice
import Derived.Deep.QuietTactic
import Derived.Deep.Draws
import Derived.BigQuiet
import Derived.Deep.RegionWith
import Derived.Laws.Rows
import Derived.Laws.AppendOwn
import Derived.Laws.CopyOwn
import Derived.RegionTactic
import Derived.OwnWalk
import Derived.Deep.OwnRows
import Derived.Below
import Derived.Maps.AppendAt
namespace Go.Proofs.YtlplikpjnocdfaaDoor
open Go.ChangeShapes Go.WideShapes Go.ChangeAt Go.RowKit
def IsRow (k : IntKind) (w : World) (a : Option Addr) (len cap : Nat) (zs : List Int) : Prop :=
  (a = none ∧ len = 0 ∧ cap = 0 ∧ zs = []) ∨
  ∃ x, a = some x ∧ len ≤ cap ∧ cap ≤ maxLen ∧ zs.length = cap ∧ (∀ i, i < zs.length → w.cell? (x.add i) = some (.int k (zs.getD i 0))) ∧ ∀ n ∈ zs, (Lit.int k n).wf = true
end Go.Proofs.YtlplikpjnocdfaaDoor
