/-
  No cell of these rows narrows 'for every input' (looked for: loops, veiled, ifaces, maps, wideKeys, modest, calm, conditions, laid).
  DERIVED. THE GIVEN ROWS OF THIS SEAT. 2 by the template 'for every input the law returns true; each argument reads behind the call as it read before'; 0 by the template 'total and deterministic' (their statements: YtkhcbbpkppkgjaaTotals.lean).
  GIVEN WITH THE SEED: the statements are not yours to turn. If you find one false, say at which input.
  Laid BY PROGRAM, IN A SANDBOX (cutbox-rows.mjs): the forced cells as the released guide's own fill.sh prints them over the translation c4bf58e555bae9e4… (all of the seat's roots in one cut). By AI agents, Wed Nov 11 2026. No macro, syntax, notation, axiom, sorry.
-/
import Derived.Test.YtkhcbbpkppkgjaaChecked
import GoSem.Claim
import GoSem.ClaimJoined
import GoSem.ClaimMapViews
import Derived.JoinedTies
import Derived.KernelRfl
namespace Go.Proofs.Ytkhcbbpkppkgjaa
/- THE CELL 'sum', in the pinned program and in every row, IS THE sha256 OF THE DUMP (.gsa) THAT YtkhcbbpkppkgjaaProg.lean LOADS. Nothing in Lean hashes anything: it is a label: what it is worth is what the hold of that sum in a sandbox is worth. -/
noncomputable def Try.pinned : Pinned := { name := "ytkhcbbpkppkgjaa", sum := "c4bf58e555bae9e4c4b3e4e770f7d1ceeeea143c7dad8df32e42897cc5f82c9a", checked := Try.checked }
namespace Rows
def none {H : Type} : Left H := { results := [], args := [] }

/-- 'n011_111.FnContainsAtMatchesSubstringSearch': WHATEVER THE INPUT: true; the input reads as it did. -/
def fnContainsAtMatchesSubstringSearchSpec : ChangeSpec := { name := "fnContainsAtMatchesSubstringSearch", fn := fun _ => fun
  | [d] => { results := [.lit (.bool true)], args := [d] }
  | _ => none }
def fnContainsAtMatchesSubstringSearchRow : OpenClaim := { program := "ytkhcbbpkppkgjaa", sum := "c4bf58e555bae9e4c4b3e4e770f7d1ceeeea143c7dad8df32e42897cc5f82c9a", func := "github.com/evanw/esbuild/n011_111.FnContainsAtMatchesSubstringSearch", spec := "fnContainsAtMatchesSubstringSearch", apart := false }
def FnContainsAtMatchesSubstringSearchSaid : Prop := fnContainsAtMatchesSubstringSearchRow.holds Try.pinned (OpenSpec.ofChange fnContainsAtMatchesSubstringSearchSpec)

/-- ITS FALSE NEIGHBOUR: 'it returns false'. Refute it at one input. -/
def fnContainsAtMatchesSubstringSearchWrong : ChangeSpec := { name := "fnContainsAtMatchesSubstringSearch", fn := fun _ => fun
  | [d] => { results := [.lit (.bool false)], args := [d] }
  | _ => none }
def FnContainsAtMatchesSubstringSearchWrongFalsely : Prop := fnContainsAtMatchesSubstringSearchRow.holds Try.pinned (OpenSpec.ofChange fnContainsAtMatchesSubstringSearchWrong)

/-- 'n011_111.FnContainsAtIsMonotoneUnderConcatenation': WHATEVER THE INPUT: true; the input reads as it did. -/
def fnContainsAtIsMonotoneUnderConcatenationSpec : ChangeSpec := { name := "fnContainsAtIsMonotoneUnderConcatenation", fn := fun _ => fun
  | [d1, d2] => { results := [.lit (.bool true)], args := [d1, d2] }
  | _ => none }
def fnContainsAtIsMonotoneUnderConcatenationRow : OpenClaim := { program := "ytkhcbbpkppkgjaa", sum := "c4bf58e555bae9e4c4b3e4e770f7d1ceeeea143c7dad8df32e42897cc5f82c9a", func := "github.com/evanw/esbuild/n011_111.FnContainsAtIsMonotoneUnderConcatenation", spec := "fnContainsAtIsMonotoneUnderConcatenation", apart := false }
def FnContainsAtIsMonotoneUnderConcatenationSaid : Prop := fnContainsAtIsMonotoneUnderConcatenationRow.holds Try.pinned (OpenSpec.ofChange fnContainsAtIsMonotoneUnderConcatenationSpec)

/-- ITS FALSE NEIGHBOUR: 'it returns false'. Refute it at one input. -/
def fnContainsAtIsMonotoneUnderConcatenationWrong : ChangeSpec := { name := "fnContainsAtIsMonotoneUnderConcatenation", fn := fun _ => fun
  | [d1, d2] => { results := [.lit (.bool false)], args := [d1, d2] }
  | _ => none }
def FnContainsAtIsMonotoneUnderConcatenationWrongFalsely : Prop := fnContainsAtIsMonotoneUnderConcatenationRow.holds Try.pinned (OpenSpec.ofChange fnContainsAtIsMonotoneUnderConcatenationWrong)

/- THE SECOND FORM. 'bulk': how many values and letters a reading holds, each counted each time it is reached (what is shared counts as often as it is met; a slice's spare places count too). A statement '..UptoSaid' is the law's where the arguments, and the package variables that the reading takes, are together of bulk at most 1048576: NARROWER than '..Said'. Prove '..Said' where nothing that the law and all that it calls make is longer than what came in: it says more and counts as full. Else prove '..UptoSaid'. A law counts once. -/
mutual
def uptoBulk {H : Type} : DataW H → Nat
  | .lit (.string bytes) => bytes.length + 1
  | .lit _ => 1
  | .nil => 1
  | .ptr d => uptoBulk d + 1
  | .slice elems spare => uptoBulkAll elems + uptoBulkAll spare + 1
  | .agg parts => uptoBulkAll parts + 1
  | .iface _ d => uptoBulk d + 1
  | .map entries => uptoBulkEntries entries + 1
  | .held _ => 1
def uptoBulkAll {H : Type} : List (DataW H) → Nat
  | [] => 0
  | d :: r => uptoBulk d + uptoBulkAll r
def uptoBulkEntries {H : Type} : List (Lit × DataW H) → Nat
  | [] => 0
  | x :: r => uptoBulkEntry x + uptoBulkEntries r
def uptoBulkEntry {H : Type} : Lit × DataW H → Nat
  | (.string bytes, d) => bytes.length + uptoBulk d + 1
  | (_, d) => uptoBulk d + 1
 end
def uptoSmall : (H : Type) → List (DataW H) → Bool := fun _ ds => decide (uptoBulkAll ds ≤ 1048576)
def OpenSpec.upto (s : _root_.Go.ChangeSpec) : _root_.Go.OpenSpec := { _root_.Go.OpenSpec.ofChange s with cond := some uptoSmall }

/-- 'n011_111.FnContainsAtMatchesSubstringSearch', WHERE WHAT IT READS IS OF BULK AT MOST 1048576: true; the input reads as it did. -/
def fnContainsAtMatchesSubstringSearchUptoRow : OpenClaim := { program := "ytkhcbbpkppkgjaa", sum := "c4bf58e555bae9e4c4b3e4e770f7d1ceeeea143c7dad8df32e42897cc5f82c9a", func := "github.com/evanw/esbuild/n011_111.FnContainsAtMatchesSubstringSearch", spec := "fnContainsAtMatchesSubstringSearch", apart := false, narrowed := true }
def FnContainsAtMatchesSubstringSearchUptoSaid : Prop := fnContainsAtMatchesSubstringSearchUptoRow.holds Try.pinned (OpenSpec.upto fnContainsAtMatchesSubstringSearchSpec)

/-- 'n011_111.FnContainsAtIsMonotoneUnderConcatenation', WHERE WHAT IT READS IS OF BULK AT MOST 1048576: true; the input reads as it did. -/
def fnContainsAtIsMonotoneUnderConcatenationUptoRow : OpenClaim := { program := "ytkhcbbpkppkgjaa", sum := "c4bf58e555bae9e4c4b3e4e770f7d1ceeeea143c7dad8df32e42897cc5f82c9a", func := "github.com/evanw/esbuild/n011_111.FnContainsAtIsMonotoneUnderConcatenation", spec := "fnContainsAtIsMonotoneUnderConcatenation", apart := false, narrowed := true }
def FnContainsAtIsMonotoneUnderConcatenationUptoSaid : Prop := fnContainsAtIsMonotoneUnderConcatenationUptoRow.holds Try.pinned (OpenSpec.upto fnContainsAtIsMonotoneUnderConcatenationSpec)

end Rows
end Go.Proofs.Ytkhcbbpkppkgjaa
