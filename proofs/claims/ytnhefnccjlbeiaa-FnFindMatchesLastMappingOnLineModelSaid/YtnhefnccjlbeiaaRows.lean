/-
  No cell of these rows narrows 'for every input' (looked for: loops, veiled, ifaces, maps, wideKeys, modest, calm, conditions, laid).
  DERIVED. THE GIVEN ROWS OF THIS SEAT. 12 by the template 'for every input the law returns true; each argument reads behind the call as it read before'; 0 by the template 'total and deterministic' (their statements: YtnhefnccjlbeiaaTotals.lean).
  GIVEN WITH THE SEED: the statements are not yours to turn. If you find one false, say at which input.
  Laid BY PROGRAM, IN A SANDBOX (cutbox-rows.mjs): the forced cells as the released guide's own fill.sh prints them over the translation f5d293ccb6c65dc0… (all of the seat's roots in one cut). By AI agents, Wed Nov 11 2026. No macro, syntax, notation, axiom, sorry.
-/
import Derived.Test.YtnhefnccjlbeiaaChecked
import GoSem.Claim
import GoSem.ClaimJoined
import GoSem.ClaimMapViews
import Derived.JoinedTies
import Derived.KernelRfl
namespace Go.Proofs.Ytnhefnccjlbeiaa
/- THE CELL 'sum', in the pinned program and in every row, IS THE sha256 OF THE DUMP (.gsa) THAT YtnhefnccjlbeiaaProg.lean LOADS. Nothing in Lean hashes anything: it is a label: what it is worth is what the hold of that sum in a sandbox is worth. -/
noncomputable def Try.pinned : Pinned := { name := "ytnhefnccjlbeiaa", sum := "f5d293ccb6c65dc0be8ee4cec9aec1e1c4301a457f7aeb8f2f06107bf21f7add", checked := Try.checked }
namespace Rows
def none {H : Type} : Left H := { results := [], args := [] }

/-- 'n011_202.FnIsIdentifierOrKeywordCaseTable': WHATEVER THE INPUT: true; the input reads as it did. -/
def fnIsIdentifierOrKeywordCaseTableSpec : ChangeSpec := { name := "fnIsIdentifierOrKeywordCaseTable", fn := fun _ => fun
  | [d] => { results := [.lit (.bool true)], args := [d] }
  | _ => none }
def fnIsIdentifierOrKeywordCaseTableRow : OpenClaim := { program := "ytnhefnccjlbeiaa", sum := "f5d293ccb6c65dc0be8ee4cec9aec1e1c4301a457f7aeb8f2f06107bf21f7add", func := "github.com/evanw/esbuild/n011_202.FnIsIdentifierOrKeywordCaseTable", spec := "fnIsIdentifierOrKeywordCaseTable", apart := false }
def FnIsIdentifierOrKeywordCaseTableSaid : Prop := fnIsIdentifierOrKeywordCaseTableRow.holds Try.pinned (OpenSpec.ofChange fnIsIdentifierOrKeywordCaseTableSpec)

/-- ITS FALSE NEIGHBOUR: 'it returns false'. Refute it at one input. -/
def fnIsIdentifierOrKeywordCaseTableWrong : ChangeSpec := { name := "fnIsIdentifierOrKeywordCaseTable", fn := fun _ => fun
  | [d] => { results := [.lit (.bool false)], args := [d] }
  | _ => none }
def FnIsIdentifierOrKeywordCaseTableWrongFalsely : Prop := fnIsIdentifierOrKeywordCaseTableRow.holds Try.pinned (OpenSpec.ofChange fnIsIdentifierOrKeywordCaseTableWrong)

/-- 'n011_8.FnCharFreqScanUndoneByNegatedDelta': WHATEVER THE INPUT: true; the input reads as it did. -/
def fnCharFreqScanUndoneByNegatedDeltaSpec : ChangeSpec := { name := "fnCharFreqScanUndoneByNegatedDelta", fn := fun _ => fun
  | [d1, d2, d3] => { results := [.lit (.bool true)], args := [d1, d2, d3] }
  | _ => none }
def fnCharFreqScanUndoneByNegatedDeltaRow : OpenClaim := { program := "ytnhefnccjlbeiaa", sum := "f5d293ccb6c65dc0be8ee4cec9aec1e1c4301a457f7aeb8f2f06107bf21f7add", func := "github.com/evanw/esbuild/n011_8.FnCharFreqScanUndoneByNegatedDelta", spec := "fnCharFreqScanUndoneByNegatedDelta", apart := false }
def FnCharFreqScanUndoneByNegatedDeltaSaid : Prop := fnCharFreqScanUndoneByNegatedDeltaRow.holds Try.pinned (OpenSpec.ofChange fnCharFreqScanUndoneByNegatedDeltaSpec)

/-- ITS FALSE NEIGHBOUR: 'it returns false'. Refute it at one input. -/
def fnCharFreqScanUndoneByNegatedDeltaWrong : ChangeSpec := { name := "fnCharFreqScanUndoneByNegatedDelta", fn := fun _ => fun
  | [d1, d2, d3] => { results := [.lit (.bool false)], args := [d1, d2, d3] }
  | _ => none }
def FnCharFreqScanUndoneByNegatedDeltaWrongFalsely : Prop := fnCharFreqScanUndoneByNegatedDeltaRow.holds Try.pinned (OpenSpec.ofChange fnCharFreqScanUndoneByNegatedDeltaWrong)

/-- 'n011_311.FnIsNameStartAgreesWithContinue': WHATEVER THE INPUT: true; the input reads as it did. -/
def fnIsNameStartAgreesWithContinueSpec : ChangeSpec := { name := "fnIsNameStartAgreesWithContinue", fn := fun _ => fun
  | [d] => { results := [.lit (.bool true)], args := [d] }
  | _ => none }
def fnIsNameStartAgreesWithContinueRow : OpenClaim := { program := "ytnhefnccjlbeiaa", sum := "f5d293ccb6c65dc0be8ee4cec9aec1e1c4301a457f7aeb8f2f06107bf21f7add", func := "github.com/evanw/esbuild/n011_311.FnIsNameStartAgreesWithContinue", spec := "fnIsNameStartAgreesWithContinue", apart := false }
def FnIsNameStartAgreesWithContinueSaid : Prop := fnIsNameStartAgreesWithContinueRow.holds Try.pinned (OpenSpec.ofChange fnIsNameStartAgreesWithContinueSpec)

/-- ITS FALSE NEIGHBOUR: 'it returns false'. Refute it at one input. -/
def fnIsNameStartAgreesWithContinueWrong : ChangeSpec := { name := "fnIsNameStartAgreesWithContinue", fn := fun _ => fun
  | [d] => { results := [.lit (.bool false)], args := [d] }
  | _ => none }
def FnIsNameStartAgreesWithContinueWrongFalsely : Prop := fnIsNameStartAgreesWithContinueRow.holds Try.pinned (OpenSpec.ofChange fnIsNameStartAgreesWithContinueWrong)

/-- 'n011_8.FnCharFreqScanSplitsOverConcatenation': WHATEVER THE INPUT: true; the input reads as it did. -/
def fnCharFreqScanSplitsOverConcatenationSpec : ChangeSpec := { name := "fnCharFreqScanSplitsOverConcatenation", fn := fun _ => fun
  | [d1, d2, d3, d4] => { results := [.lit (.bool true)], args := [d1, d2, d3, d4] }
  | _ => none }
def fnCharFreqScanSplitsOverConcatenationRow : OpenClaim := { program := "ytnhefnccjlbeiaa", sum := "f5d293ccb6c65dc0be8ee4cec9aec1e1c4301a457f7aeb8f2f06107bf21f7add", func := "github.com/evanw/esbuild/n011_8.FnCharFreqScanSplitsOverConcatenation", spec := "fnCharFreqScanSplitsOverConcatenation", apart := false }
def FnCharFreqScanSplitsOverConcatenationSaid : Prop := fnCharFreqScanSplitsOverConcatenationRow.holds Try.pinned (OpenSpec.ofChange fnCharFreqScanSplitsOverConcatenationSpec)

/-- ITS FALSE NEIGHBOUR: 'it returns false'. Refute it at one input. -/
def fnCharFreqScanSplitsOverConcatenationWrong : ChangeSpec := { name := "fnCharFreqScanSplitsOverConcatenation", fn := fun _ => fun
  | [d1, d2, d3, d4] => { results := [.lit (.bool false)], args := [d1, d2, d3, d4] }
  | _ => none }
def FnCharFreqScanSplitsOverConcatenationWrongFalsely : Prop := fnCharFreqScanSplitsOverConcatenationRow.holds Try.pinned (OpenSpec.ofChange fnCharFreqScanSplitsOverConcatenationWrong)

/-- 'n011_213.FnRawConcatenatesAcrossSplit': WHATEVER THE INPUT: true; the input reads as it did. -/
def fnRawConcatenatesAcrossSplitSpec : ChangeSpec := { name := "fnRawConcatenatesAcrossSplit", fn := fun _ => fun
  | [d1, d2, d3, d4] => { results := [.lit (.bool true)], args := [d1, d2, d3, d4] }
  | _ => none }
def fnRawConcatenatesAcrossSplitRow : OpenClaim := { program := "ytnhefnccjlbeiaa", sum := "f5d293ccb6c65dc0be8ee4cec9aec1e1c4301a457f7aeb8f2f06107bf21f7add", func := "github.com/evanw/esbuild/n011_213.FnRawConcatenatesAcrossSplit", spec := "fnRawConcatenatesAcrossSplit", apart := false }
def FnRawConcatenatesAcrossSplitSaid : Prop := fnRawConcatenatesAcrossSplitRow.holds Try.pinned (OpenSpec.ofChange fnRawConcatenatesAcrossSplitSpec)

/-- ITS FALSE NEIGHBOUR: 'it returns false'. Refute it at one input. -/
def fnRawConcatenatesAcrossSplitWrong : ChangeSpec := { name := "fnRawConcatenatesAcrossSplit", fn := fun _ => fun
  | [d1, d2, d3, d4] => { results := [.lit (.bool false)], args := [d1, d2, d3, d4] }
  | _ => none }
def FnRawConcatenatesAcrossSplitWrongFalsely : Prop := fnRawConcatenatesAcrossSplitRow.holds Try.pinned (OpenSpec.ofChange fnRawConcatenatesAcrossSplitWrong)

/-- 'n011_8.FnMergeContentsTwiceOnlyAddsCount': WHATEVER THE INPUT: true; the input reads as it did. -/
def fnMergeContentsTwiceOnlyAddsCountSpec : ChangeSpec := { name := "fnMergeContentsTwiceOnlyAddsCount", fn := fun _ => fun
  | [d1, d2, d3, d4, d5, d6, d7, d8] => { results := [.lit (.bool true)], args := [d1, d2, d3, d4, d5, d6, d7, d8] }
  | _ => none }
def fnMergeContentsTwiceOnlyAddsCountRow : OpenClaim := { program := "ytnhefnccjlbeiaa", sum := "f5d293ccb6c65dc0be8ee4cec9aec1e1c4301a457f7aeb8f2f06107bf21f7add", func := "github.com/evanw/esbuild/n011_8.FnMergeContentsTwiceOnlyAddsCount", spec := "fnMergeContentsTwiceOnlyAddsCount", apart := false }
def FnMergeContentsTwiceOnlyAddsCountSaid : Prop := fnMergeContentsTwiceOnlyAddsCountRow.holds Try.pinned (OpenSpec.ofChange fnMergeContentsTwiceOnlyAddsCountSpec)

/-- ITS FALSE NEIGHBOUR: 'it returns false'. Refute it at one input. -/
def fnMergeContentsTwiceOnlyAddsCountWrong : ChangeSpec := { name := "fnMergeContentsTwiceOnlyAddsCount", fn := fun _ => fun
  | [d1, d2, d3, d4, d5, d6, d7, d8] => { results := [.lit (.bool false)], args := [d1, d2, d3, d4, d5, d6, d7, d8] }
  | _ => none }
def FnMergeContentsTwiceOnlyAddsCountWrongFalsely : Prop := fnMergeContentsTwiceOnlyAddsCountRow.holds Try.pinned (OpenSpec.ofChange fnMergeContentsTwiceOnlyAddsCountWrong)

/-- 'n011_213.FnLocMonotoneInStart': WHATEVER THE INPUT: true; the input reads as it did. -/
def fnLocMonotoneInStartSpec : ChangeSpec := { name := "fnLocMonotoneInStart", fn := fun _ => fun
  | [d1, d2, d3, d4, d5] => { results := [.lit (.bool true)], args := [d1, d2, d3, d4, d5] }
  | _ => none }
def fnLocMonotoneInStartRow : OpenClaim := { program := "ytnhefnccjlbeiaa", sum := "f5d293ccb6c65dc0be8ee4cec9aec1e1c4301a457f7aeb8f2f06107bf21f7add", func := "github.com/evanw/esbuild/n011_213.FnLocMonotoneInStart", spec := "fnLocMonotoneInStart", apart := false }
def FnLocMonotoneInStartSaid : Prop := fnLocMonotoneInStartRow.holds Try.pinned (OpenSpec.ofChange fnLocMonotoneInStartSpec)

/-- ITS FALSE NEIGHBOUR: 'it returns false'. Refute it at one input. -/
def fnLocMonotoneInStartWrong : ChangeSpec := { name := "fnLocMonotoneInStart", fn := fun _ => fun
  | [d1, d2, d3, d4, d5] => { results := [.lit (.bool false)], args := [d1, d2, d3, d4, d5] }
  | _ => none }
def FnLocMonotoneInStartWrongFalsely : Prop := fnLocMonotoneInStartRow.holds Try.pinned (OpenSpec.ofChange fnLocMonotoneInStartWrong)

/-- 'n011_213.FnRawIdentifierIsValidSubstring': WHATEVER THE INPUT: true; the input reads as it did. -/
def fnRawIdentifierIsValidSubstringSpec : ChangeSpec := { name := "fnRawIdentifierIsValidSubstring", fn := fun _ => fun
  | [d1, d2, d3] => { results := [.lit (.bool true)], args := [d1, d2, d3] }
  | _ => none }
def fnRawIdentifierIsValidSubstringRow : OpenClaim := { program := "ytnhefnccjlbeiaa", sum := "f5d293ccb6c65dc0be8ee4cec9aec1e1c4301a457f7aeb8f2f06107bf21f7add", func := "github.com/evanw/esbuild/n011_213.FnRawIdentifierIsValidSubstring", spec := "fnRawIdentifierIsValidSubstring", apart := false }
def FnRawIdentifierIsValidSubstringSaid : Prop := fnRawIdentifierIsValidSubstringRow.holds Try.pinned (OpenSpec.ofChange fnRawIdentifierIsValidSubstringSpec)

/-- ITS FALSE NEIGHBOUR: 'it returns false'. Refute it at one input. -/
def fnRawIdentifierIsValidSubstringWrong : ChangeSpec := { name := "fnRawIdentifierIsValidSubstring", fn := fun _ => fun
  | [d1, d2, d3] => { results := [.lit (.bool false)], args := [d1, d2, d3] }
  | _ => none }
def FnRawIdentifierIsValidSubstringWrongFalsely : Prop := fnRawIdentifierIsValidSubstringRow.holds Try.pinned (OpenSpec.ofChange fnRawIdentifierIsValidSubstringWrong)

/-- 'n011_194.FnFindAnswerIsAMappingOnTheQueriedLine': WHATEVER THE INPUT: true; the input reads as it did. -/
def fnFindAnswerIsAMappingOnTheQueriedLineSpec : ChangeSpec := { name := "fnFindAnswerIsAMappingOnTheQueriedLine", fn := fun _ => fun
  | [d1, d2, d3, d4] => { results := [.lit (.bool true)], args := [d1, d2, d3, d4] }
  | _ => none }
def fnFindAnswerIsAMappingOnTheQueriedLineRow : OpenClaim := { program := "ytnhefnccjlbeiaa", sum := "f5d293ccb6c65dc0be8ee4cec9aec1e1c4301a457f7aeb8f2f06107bf21f7add", func := "github.com/evanw/esbuild/n011_194.FnFindAnswerIsAMappingOnTheQueriedLine", spec := "fnFindAnswerIsAMappingOnTheQueriedLine", apart := false }
def FnFindAnswerIsAMappingOnTheQueriedLineSaid : Prop := fnFindAnswerIsAMappingOnTheQueriedLineRow.holds Try.pinned (OpenSpec.ofChange fnFindAnswerIsAMappingOnTheQueriedLineSpec)

/-- ITS FALSE NEIGHBOUR: 'it returns false'. Refute it at one input. -/
def fnFindAnswerIsAMappingOnTheQueriedLineWrong : ChangeSpec := { name := "fnFindAnswerIsAMappingOnTheQueriedLine", fn := fun _ => fun
  | [d1, d2, d3, d4] => { results := [.lit (.bool false)], args := [d1, d2, d3, d4] }
  | _ => none }
def FnFindAnswerIsAMappingOnTheQueriedLineWrongFalsely : Prop := fnFindAnswerIsAMappingOnTheQueriedLineRow.holds Try.pinned (OpenSpec.ofChange fnFindAnswerIsAMappingOnTheQueriedLineWrong)

/-- 'n011_213.FnRangeSpansRaw': WHATEVER THE INPUT: true; the input reads as it did. -/
def fnRangeSpansRawSpec : ChangeSpec := { name := "fnRangeSpansRaw", fn := fun _ => fun
  | [d1, d2, d3] => { results := [.lit (.bool true)], args := [d1, d2, d3] }
  | _ => none }
def fnRangeSpansRawRow : OpenClaim := { program := "ytnhefnccjlbeiaa", sum := "f5d293ccb6c65dc0be8ee4cec9aec1e1c4301a457f7aeb8f2f06107bf21f7add", func := "github.com/evanw/esbuild/n011_213.FnRangeSpansRaw", spec := "fnRangeSpansRaw", apart := false }
def FnRangeSpansRawSaid : Prop := fnRangeSpansRawRow.holds Try.pinned (OpenSpec.ofChange fnRangeSpansRawSpec)

/-- ITS FALSE NEIGHBOUR: 'it returns false'. Refute it at one input. -/
def fnRangeSpansRawWrong : ChangeSpec := { name := "fnRangeSpansRaw", fn := fun _ => fun
  | [d1, d2, d3] => { results := [.lit (.bool false)], args := [d1, d2, d3] }
  | _ => none }
def FnRangeSpansRawWrongFalsely : Prop := fnRangeSpansRawRow.holds Try.pinned (OpenSpec.ofChange fnRangeSpansRawWrong)

/-- 'n011_194.FnFindMatchesLastMappingOnLineModel': WHATEVER THE INPUT: true; the input reads as it did. -/
def fnFindMatchesLastMappingOnLineModelSpec : ChangeSpec := { name := "fnFindMatchesLastMappingOnLineModel", fn := fun _ => fun
  | [d1, d2, d3, d4] => { results := [.lit (.bool true)], args := [d1, d2, d3, d4] }
  | _ => none }
def fnFindMatchesLastMappingOnLineModelRow : OpenClaim := { program := "ytnhefnccjlbeiaa", sum := "f5d293ccb6c65dc0be8ee4cec9aec1e1c4301a457f7aeb8f2f06107bf21f7add", func := "github.com/evanw/esbuild/n011_194.FnFindMatchesLastMappingOnLineModel", spec := "fnFindMatchesLastMappingOnLineModel", apart := false }
def FnFindMatchesLastMappingOnLineModelSaid : Prop := fnFindMatchesLastMappingOnLineModelRow.holds Try.pinned (OpenSpec.ofChange fnFindMatchesLastMappingOnLineModelSpec)

/-- ITS FALSE NEIGHBOUR: 'it returns false'. Refute it at one input. -/
def fnFindMatchesLastMappingOnLineModelWrong : ChangeSpec := { name := "fnFindMatchesLastMappingOnLineModel", fn := fun _ => fun
  | [d1, d2, d3, d4] => { results := [.lit (.bool false)], args := [d1, d2, d3, d4] }
  | _ => none }
def FnFindMatchesLastMappingOnLineModelWrongFalsely : Prop := fnFindMatchesLastMappingOnLineModelRow.holds Try.pinned (OpenSpec.ofChange fnFindMatchesLastMappingOnLineModelWrong)

/-- 'n011_8.FnMergeContentsKeepsOldAndBoundsFlags': WHATEVER THE INPUT: true; the input reads as it did. -/
def fnMergeContentsKeepsOldAndBoundsFlagsSpec : ChangeSpec := { name := "fnMergeContentsKeepsOldAndBoundsFlags", fn := fun _ => fun
  | [d1, d2, d3, d4, d5, d6, d7, d8] => { results := [.lit (.bool true)], args := [d1, d2, d3, d4, d5, d6, d7, d8] }
  | _ => none }
def fnMergeContentsKeepsOldAndBoundsFlagsRow : OpenClaim := { program := "ytnhefnccjlbeiaa", sum := "f5d293ccb6c65dc0be8ee4cec9aec1e1c4301a457f7aeb8f2f06107bf21f7add", func := "github.com/evanw/esbuild/n011_8.FnMergeContentsKeepsOldAndBoundsFlags", spec := "fnMergeContentsKeepsOldAndBoundsFlags", apart := false }
def FnMergeContentsKeepsOldAndBoundsFlagsSaid : Prop := fnMergeContentsKeepsOldAndBoundsFlagsRow.holds Try.pinned (OpenSpec.ofChange fnMergeContentsKeepsOldAndBoundsFlagsSpec)

/-- ITS FALSE NEIGHBOUR: 'it returns false'. Refute it at one input. -/
def fnMergeContentsKeepsOldAndBoundsFlagsWrong : ChangeSpec := { name := "fnMergeContentsKeepsOldAndBoundsFlags", fn := fun _ => fun
  | [d1, d2, d3, d4, d5, d6, d7, d8] => { results := [.lit (.bool false)], args := [d1, d2, d3, d4, d5, d6, d7, d8] }
  | _ => none }
def FnMergeContentsKeepsOldAndBoundsFlagsWrongFalsely : Prop := fnMergeContentsKeepsOldAndBoundsFlagsRow.holds Try.pinned (OpenSpec.ofChange fnMergeContentsKeepsOldAndBoundsFlagsWrong)

/- THE SECOND FORM. 'bulk': how many values and letters a reading holds, each counted each time it is reached (what is shared counts as often as it is met; a slice's spare places count too). A statement '..UptoSaid' is the law's where the arguments, and the package variables that the reading takes, are together of bulk at most 1048576: NARROWER than '..Said'. Prove '..Said' where nothing that the law and all that it calls make is longer than what came in: it says more and counts as full. Else prove '..UptoSaid'. A law counts once. -/
mutual
def uptoBulk {H : Type} : DataW H → Nat
  | .lit (.string bytes) => bytes.length + 1
  | .lit _ => 1
  | .nil => 1
  | .ptr d => uptoBulk d + 1
  | .slice elems spare => uptoBulkAll elems + uptoBulkAll spare + 1
  | .agg parts => uptoBulkAll parts + 1
  | .iface _ d => uptoBulk d + 1
  | .map entries => uptoBulkEntries entries + 1
  | .held _ => 1
def uptoBulkAll {H : Type} : List (DataW H) → Nat
  | [] => 0
  | d :: r => uptoBulk d + uptoBulkAll r
def uptoBulkEntries {H : Type} : List (Lit × DataW H) → Nat
  | [] => 0
  | x :: r => uptoBulkEntry x + uptoBulkEntries r
def uptoBulkEntry {H : Type} : Lit × DataW H → Nat
  | (.string bytes, d) => bytes.length + uptoBulk d + 1
  | (_, d) => uptoBulk d + 1
 end
def uptoSmall : (H : Type) → List (DataW H) → Bool := fun _ ds => decide (uptoBulkAll ds ≤ 1048576)
def OpenSpec.upto (s : _root_.Go.ChangeSpec) : _root_.Go.OpenSpec := { _root_.Go.OpenSpec.ofChange s with cond := some uptoSmall }

/-- 'n011_202.FnIsIdentifierOrKeywordCaseTable', WHERE WHAT IT READS IS OF BULK AT MOST 1048576: true; the input reads as it did. -/
def fnIsIdentifierOrKeywordCaseTableUptoRow : OpenClaim := { program := "ytnhefnccjlbeiaa", sum := "f5d293ccb6c65dc0be8ee4cec9aec1e1c4301a457f7aeb8f2f06107bf21f7add", func := "github.com/evanw/esbuild/n011_202.FnIsIdentifierOrKeywordCaseTable", spec := "fnIsIdentifierOrKeywordCaseTable", apart := false, narrowed := true }
def FnIsIdentifierOrKeywordCaseTableUptoSaid : Prop := fnIsIdentifierOrKeywordCaseTableUptoRow.holds Try.pinned (OpenSpec.upto fnIsIdentifierOrKeywordCaseTableSpec)

/-- 'n011_8.FnCharFreqScanUndoneByNegatedDelta', WHERE WHAT IT READS IS OF BULK AT MOST 1048576: true; the input reads as it did. -/
def fnCharFreqScanUndoneByNegatedDeltaUptoRow : OpenClaim := { program := "ytnhefnccjlbeiaa", sum := "f5d293ccb6c65dc0be8ee4cec9aec1e1c4301a457f7aeb8f2f06107bf21f7add", func := "github.com/evanw/esbuild/n011_8.FnCharFreqScanUndoneByNegatedDelta", spec := "fnCharFreqScanUndoneByNegatedDelta", apart := false, narrowed := true }
def FnCharFreqScanUndoneByNegatedDeltaUptoSaid : Prop := fnCharFreqScanUndoneByNegatedDeltaUptoRow.holds Try.pinned (OpenSpec.upto fnCharFreqScanUndoneByNegatedDeltaSpec)

/-- 'n011_311.FnIsNameStartAgreesWithContinue', WHERE WHAT IT READS IS OF BULK AT MOST 1048576: true; the input reads as it did. -/
def fnIsNameStartAgreesWithContinueUptoRow : OpenClaim := { program := "ytnhefnccjlbeiaa", sum := "f5d293ccb6c65dc0be8ee4cec9aec1e1c4301a457f7aeb8f2f06107bf21f7add", func := "github.com/evanw/esbuild/n011_311.FnIsNameStartAgreesWithContinue", spec := "fnIsNameStartAgreesWithContinue", apart := false, narrowed := true }
def FnIsNameStartAgreesWithContinueUptoSaid : Prop := fnIsNameStartAgreesWithContinueUptoRow.holds Try.pinned (OpenSpec.upto fnIsNameStartAgreesWithContinueSpec)

/-- 'n011_8.FnCharFreqScanSplitsOverConcatenation', WHERE WHAT IT READS IS OF BULK AT MOST 1048576: true; the input reads as it did. -/
def fnCharFreqScanSplitsOverConcatenationUptoRow : OpenClaim := { program := "ytnhefnccjlbeiaa", sum := "f5d293ccb6c65dc0be8ee4cec9aec1e1c4301a457f7aeb8f2f06107bf21f7add", func := "github.com/evanw/esbuild/n011_8.FnCharFreqScanSplitsOverConcatenation", spec := "fnCharFreqScanSplitsOverConcatenation", apart := false, narrowed := true }
def FnCharFreqScanSplitsOverConcatenationUptoSaid : Prop := fnCharFreqScanSplitsOverConcatenationUptoRow.holds Try.pinned (OpenSpec.upto fnCharFreqScanSplitsOverConcatenationSpec)

/-- 'n011_213.FnRawConcatenatesAcrossSplit', WHERE WHAT IT READS IS OF BULK AT MOST 1048576: true; the input reads as it did. -/
def fnRawConcatenatesAcrossSplitUptoRow : OpenClaim := { program := "ytnhefnccjlbeiaa", sum := "f5d293ccb6c65dc0be8ee4cec9aec1e1c4301a457f7aeb8f2f06107bf21f7add", func := "github.com/evanw/esbuild/n011_213.FnRawConcatenatesAcrossSplit", spec := "fnRawConcatenatesAcrossSplit", apart := false, narrowed := true }
def FnRawConcatenatesAcrossSplitUptoSaid : Prop := fnRawConcatenatesAcrossSplitUptoRow.holds Try.pinned (OpenSpec.upto fnRawConcatenatesAcrossSplitSpec)

/-- 'n011_8.FnMergeContentsTwiceOnlyAddsCount', WHERE WHAT IT READS IS OF BULK AT MOST 1048576: true; the input reads as it did. -/
def fnMergeContentsTwiceOnlyAddsCountUptoRow : OpenClaim := { program := "ytnhefnccjlbeiaa", sum := "f5d293ccb6c65dc0be8ee4cec9aec1e1c4301a457f7aeb8f2f06107bf21f7add", func := "github.com/evanw/esbuild/n011_8.FnMergeContentsTwiceOnlyAddsCount", spec := "fnMergeContentsTwiceOnlyAddsCount", apart := false, narrowed := true }
def FnMergeContentsTwiceOnlyAddsCountUptoSaid : Prop := fnMergeContentsTwiceOnlyAddsCountUptoRow.holds Try.pinned (OpenSpec.upto fnMergeContentsTwiceOnlyAddsCountSpec)

/-- 'n011_213.FnLocMonotoneInStart', WHERE WHAT IT READS IS OF BULK AT MOST 1048576: true; the input reads as it did. -/
def fnLocMonotoneInStartUptoRow : OpenClaim := { program := "ytnhefnccjlbeiaa", sum := "f5d293ccb6c65dc0be8ee4cec9aec1e1c4301a457f7aeb8f2f06107bf21f7add", func := "github.com/evanw/esbuild/n011_213.FnLocMonotoneInStart", spec := "fnLocMonotoneInStart", apart := false, narrowed := true }
def FnLocMonotoneInStartUptoSaid : Prop := fnLocMonotoneInStartUptoRow.holds Try.pinned (OpenSpec.upto fnLocMonotoneInStartSpec)

/-- 'n011_213.FnRawIdentifierIsValidSubstring', WHERE WHAT IT READS IS OF BULK AT MOST 1048576: true; the input reads as it did. -/
def fnRawIdentifierIsValidSubstringUptoRow : OpenClaim := { program := "ytnhefnccjlbeiaa", sum := "f5d293ccb6c65dc0be8ee4cec9aec1e1c4301a457f7aeb8f2f06107bf21f7add", func := "github.com/evanw/esbuild/n011_213.FnRawIdentifierIsValidSubstring", spec := "fnRawIdentifierIsValidSubstring", apart := false, narrowed := true }
def FnRawIdentifierIsValidSubstringUptoSaid : Prop := fnRawIdentifierIsValidSubstringUptoRow.holds Try.pinned (OpenSpec.upto fnRawIdentifierIsValidSubstringSpec)

/-- 'n011_194.FnFindAnswerIsAMappingOnTheQueriedLine', WHERE WHAT IT READS IS OF BULK AT MOST 1048576: true; the input reads as it did. -/
def fnFindAnswerIsAMappingOnTheQueriedLineUptoRow : OpenClaim := { program := "ytnhefnccjlbeiaa", sum := "f5d293ccb6c65dc0be8ee4cec9aec1e1c4301a457f7aeb8f2f06107bf21f7add", func := "github.com/evanw/esbuild/n011_194.FnFindAnswerIsAMappingOnTheQueriedLine", spec := "fnFindAnswerIsAMappingOnTheQueriedLine", apart := false, narrowed := true }
def FnFindAnswerIsAMappingOnTheQueriedLineUptoSaid : Prop := fnFindAnswerIsAMappingOnTheQueriedLineUptoRow.holds Try.pinned (OpenSpec.upto fnFindAnswerIsAMappingOnTheQueriedLineSpec)

/-- 'n011_213.FnRangeSpansRaw', WHERE WHAT IT READS IS OF BULK AT MOST 1048576: true; the input reads as it did. -/
def fnRangeSpansRawUptoRow : OpenClaim := { program := "ytnhefnccjlbeiaa", sum := "f5d293ccb6c65dc0be8ee4cec9aec1e1c4301a457f7aeb8f2f06107bf21f7add", func := "github.com/evanw/esbuild/n011_213.FnRangeSpansRaw", spec := "fnRangeSpansRaw", apart := false, narrowed := true }
def FnRangeSpansRawUptoSaid : Prop := fnRangeSpansRawUptoRow.holds Try.pinned (OpenSpec.upto fnRangeSpansRawSpec)

/-- 'n011_194.FnFindMatchesLastMappingOnLineModel', WHERE WHAT IT READS IS OF BULK AT MOST 1048576: true; the input reads as it did. -/
def fnFindMatchesLastMappingOnLineModelUptoRow : OpenClaim := { program := "ytnhefnccjlbeiaa", sum := "f5d293ccb6c65dc0be8ee4cec9aec1e1c4301a457f7aeb8f2f06107bf21f7add", func := "github.com/evanw/esbuild/n011_194.FnFindMatchesLastMappingOnLineModel", spec := "fnFindMatchesLastMappingOnLineModel", apart := false, narrowed := true }
def FnFindMatchesLastMappingOnLineModelUptoSaid : Prop := fnFindMatchesLastMappingOnLineModelUptoRow.holds Try.pinned (OpenSpec.upto fnFindMatchesLastMappingOnLineModelSpec)

/-- 'n011_8.FnMergeContentsKeepsOldAndBoundsFlags', WHERE WHAT IT READS IS OF BULK AT MOST 1048576: true; the input reads as it did. -/
def fnMergeContentsKeepsOldAndBoundsFlagsUptoRow : OpenClaim := { program := "ytnhefnccjlbeiaa", sum := "f5d293ccb6c65dc0be8ee4cec9aec1e1c4301a457f7aeb8f2f06107bf21f7add", func := "github.com/evanw/esbuild/n011_8.FnMergeContentsKeepsOldAndBoundsFlags", spec := "fnMergeContentsKeepsOldAndBoundsFlags", apart := false, narrowed := true }
def FnMergeContentsKeepsOldAndBoundsFlagsUptoSaid : Prop := fnMergeContentsKeepsOldAndBoundsFlagsUptoRow.holds Try.pinned (OpenSpec.upto fnMergeContentsKeepsOldAndBoundsFlagsSpec)

end Rows
end Go.Proofs.Ytnhefnccjlbeiaa
