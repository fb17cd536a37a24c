/-
  No cell of these rows narrows 'for every input' (looked for: loops, veiled, ifaces, maps, wideKeys, modest, calm, conditions, laid).
  DERIVED. THE GIVEN ROWS OF THIS SEAT. 11 by the template 'for every input the law returns true; each argument reads behind the call as it read before'; 0 by the template 'total and deterministic' (their statements: YtkhedaaaimnikaaTotals.lean).
  GIVEN WITH THE SEED: the statements are not yours to turn. If you find one false, say at which input.
  Laid BY PROGRAM, IN A SANDBOX (cutbox-rows.mjs): the forced cells as the released guide's own fill.sh prints them over the translation d751ab51f0038464… (all of the seat's roots in one cut). By AI agents, Wed Nov 11 2026. No macro, syntax, notation, axiom, sorry.
-/
import Derived.Test.YtkhedaaaimnikaaChecked
import GoSem.Claim
import GoSem.ClaimJoined
import GoSem.ClaimMapViews
import Derived.JoinedTies
import Derived.KernelRfl
namespace Go.Proofs.Ytkhedaaaimnikaa
/- THE CELL 'sum', in the pinned program and in every row, IS THE sha256 OF THE DUMP (.gsa) THAT YtkhedaaaimnikaaProg.lean LOADS. Nothing in Lean hashes anything: it is a label: what it is worth is what the hold of that sum in a sandbox is worth. -/
noncomputable def Try.pinned : Pinned := { name := "ytkhedaaaimnikaa", sum := "d751ab51f003846410328c08e2fde637e6f0e1ee3989bcece625bac48e1474ae", checked := Try.checked }
namespace Rows
def none {H : Type} : Left H := { results := [], args := [] }

/-- 'n011_230.FnIsLetterASCIIModel': WHATEVER THE INPUT: true; the input reads as it did. -/
def fnIsLetterASCIIModelSpec : ChangeSpec := { name := "fnIsLetterASCIIModel", fn := fun _ => fun
  | [d] => { results := [.lit (.bool true)], args := [d] }
  | _ => none }
def fnIsLetterASCIIModelRow : OpenClaim := { program := "ytkhedaaaimnikaa", sum := "d751ab51f003846410328c08e2fde637e6f0e1ee3989bcece625bac48e1474ae", func := "github.com/evanw/esbuild/n011_230.FnIsLetterASCIIModel", spec := "fnIsLetterASCIIModel", apart := false }
def FnIsLetterASCIIModelSaid : Prop := fnIsLetterASCIIModelRow.holds Try.pinned (OpenSpec.ofChange fnIsLetterASCIIModelSpec)

/-- ITS FALSE NEIGHBOUR: 'it returns false'. Refute it at one input. -/
def fnIsLetterASCIIModelWrong : ChangeSpec := { name := "fnIsLetterASCIIModel", fn := fun _ => fun
  | [d] => { results := [.lit (.bool false)], args := [d] }
  | _ => none }
def FnIsLetterASCIIModelWrongFalsely : Prop := fnIsLetterASCIIModelRow.holds Try.pinned (OpenSpec.ofChange fnIsLetterASCIIModelWrong)

/-- 'n011_230.FnIsUpperASCIIIsLetterWithCaseBitClear': WHATEVER THE INPUT: true; the input reads as it did. -/
def fnIsUpperASCIIIsLetterWithCaseBitClearSpec : ChangeSpec := { name := "fnIsUpperASCIIIsLetterWithCaseBitClear", fn := fun _ => fun
  | [d] => { results := [.lit (.bool true)], args := [d] }
  | _ => none }
def fnIsUpperASCIIIsLetterWithCaseBitClearRow : OpenClaim := { program := "ytkhedaaaimnikaa", sum := "d751ab51f003846410328c08e2fde637e6f0e1ee3989bcece625bac48e1474ae", func := "github.com/evanw/esbuild/n011_230.FnIsUpperASCIIIsLetterWithCaseBitClear", spec := "fnIsUpperASCIIIsLetterWithCaseBitClear", apart := false }
def FnIsUpperASCIIIsLetterWithCaseBitClearSaid : Prop := fnIsUpperASCIIIsLetterWithCaseBitClearRow.holds Try.pinned (OpenSpec.ofChange fnIsUpperASCIIIsLetterWithCaseBitClearSpec)

/-- ITS FALSE NEIGHBOUR: 'it returns false'. Refute it at one input. -/
def fnIsUpperASCIIIsLetterWithCaseBitClearWrong : ChangeSpec := { name := "fnIsUpperASCIIIsLetterWithCaseBitClear", fn := fun _ => fun
  | [d] => { results := [.lit (.bool false)], args := [d] }
  | _ => none }
def FnIsUpperASCIIIsLetterWithCaseBitClearWrongFalsely : Prop := fnIsUpperASCIIIsLetterWithCaseBitClearRow.holds Try.pinned (OpenSpec.ofChange fnIsUpperASCIIIsLetterWithCaseBitClearWrong)

/-- 'n011_50.FnIsNonPrintableBitmaskModel': WHATEVER THE INPUT: true; the input reads as it did. -/
def fnIsNonPrintableBitmaskModelSpec : ChangeSpec := { name := "fnIsNonPrintableBitmaskModel", fn := fun _ => fun
  | [d] => { results := [.lit (.bool true)], args := [d] }
  | _ => none }
def fnIsNonPrintableBitmaskModelRow : OpenClaim := { program := "ytkhedaaaimnikaa", sum := "d751ab51f003846410328c08e2fde637e6f0e1ee3989bcece625bac48e1474ae", func := "github.com/evanw/esbuild/n011_50.FnIsNonPrintableBitmaskModel", spec := "fnIsNonPrintableBitmaskModel", apart := false }
def FnIsNonPrintableBitmaskModelSaid : Prop := fnIsNonPrintableBitmaskModelRow.holds Try.pinned (OpenSpec.ofChange fnIsNonPrintableBitmaskModelSpec)

/-- ITS FALSE NEIGHBOUR: 'it returns false'. Refute it at one input. -/
def fnIsNonPrintableBitmaskModelWrong : ChangeSpec := { name := "fnIsNonPrintableBitmaskModel", fn := fun _ => fun
  | [d] => { results := [.lit (.bool false)], args := [d] }
  | _ => none }
def FnIsNonPrintableBitmaskModelWrongFalsely : Prop := fnIsNonPrintableBitmaskModelRow.holds Try.pinned (OpenSpec.ofChange fnIsNonPrintableBitmaskModelWrong)

/-- 'n011_50.FnIsNewlineExactRange': WHATEVER THE INPUT: true; the input reads as it did. -/
def fnIsNewlineExactRangeSpec : ChangeSpec := { name := "fnIsNewlineExactRange", fn := fun _ => fun
  | [d] => { results := [.lit (.bool true)], args := [d] }
  | _ => none }
def fnIsNewlineExactRangeRow : OpenClaim := { program := "ytkhedaaaimnikaa", sum := "d751ab51f003846410328c08e2fde637e6f0e1ee3989bcece625bac48e1474ae", func := "github.com/evanw/esbuild/n011_50.FnIsNewlineExactRange", spec := "fnIsNewlineExactRange", apart := false }
def FnIsNewlineExactRangeSaid : Prop := fnIsNewlineExactRangeRow.holds Try.pinned (OpenSpec.ofChange fnIsNewlineExactRangeSpec)

/-- ITS FALSE NEIGHBOUR: 'it returns false'. Refute it at one input. -/
def fnIsNewlineExactRangeWrong : ChangeSpec := { name := "fnIsNewlineExactRange", fn := fun _ => fun
  | [d] => { results := [.lit (.bool false)], args := [d] }
  | _ => none }
def FnIsNewlineExactRangeWrongFalsely : Prop := fnIsNewlineExactRangeRow.holds Try.pinned (OpenSpec.ofChange fnIsNewlineExactRangeWrong)

/-- 'n011_50.FnIsWhitespaceNeitherNonPrintableNorName': WHATEVER THE INPUT: true; the input reads as it did. -/
def fnIsWhitespaceNeitherNonPrintableNorNameSpec : ChangeSpec := { name := "fnIsWhitespaceNeitherNonPrintableNorName", fn := fun _ => fun
  | [d] => { results := [.lit (.bool true)], args := [d] }
  | _ => none }
def fnIsWhitespaceNeitherNonPrintableNorNameRow : OpenClaim := { program := "ytkhedaaaimnikaa", sum := "d751ab51f003846410328c08e2fde637e6f0e1ee3989bcece625bac48e1474ae", func := "github.com/evanw/esbuild/n011_50.FnIsWhitespaceNeitherNonPrintableNorName", spec := "fnIsWhitespaceNeitherNonPrintableNorName", apart := false }
def FnIsWhitespaceNeitherNonPrintableNorNameSaid : Prop := fnIsWhitespaceNeitherNonPrintableNorNameRow.holds Try.pinned (OpenSpec.ofChange fnIsWhitespaceNeitherNonPrintableNorNameSpec)

/-- ITS FALSE NEIGHBOUR: 'it returns false'. Refute it at one input. -/
def fnIsWhitespaceNeitherNonPrintableNorNameWrong : ChangeSpec := { name := "fnIsWhitespaceNeitherNonPrintableNorName", fn := fun _ => fun
  | [d] => { results := [.lit (.bool false)], args := [d] }
  | _ => none }
def FnIsWhitespaceNeitherNonPrintableNorNameWrongFalsely : Prop := fnIsWhitespaceNeitherNonPrintableNorNameRow.holds Try.pinned (OpenSpec.ofChange fnIsWhitespaceNeitherNonPrintableNorNameWrong)

/-- 'n011_75.FnIsUnboundOrInjectedExcludesOtherClasses': WHATEVER THE INPUT: true; the input reads as it did. -/
def fnIsUnboundOrInjectedExcludesOtherClassesSpec : ChangeSpec := { name := "fnIsUnboundOrInjectedExcludesOtherClasses", fn := fun _ => fun
  | [d] => { results := [.lit (.bool true)], args := [d] }
  | _ => none }
def fnIsUnboundOrInjectedExcludesOtherClassesRow : OpenClaim := { program := "ytkhedaaaimnikaa", sum := "d751ab51f003846410328c08e2fde637e6f0e1ee3989bcece625bac48e1474ae", func := "github.com/evanw/esbuild/n011_75.FnIsUnboundOrInjectedExcludesOtherClasses", spec := "fnIsUnboundOrInjectedExcludesOtherClasses", apart := false }
def FnIsUnboundOrInjectedExcludesOtherClassesSaid : Prop := fnIsUnboundOrInjectedExcludesOtherClassesRow.holds Try.pinned (OpenSpec.ofChange fnIsUnboundOrInjectedExcludesOtherClassesSpec)

/-- ITS FALSE NEIGHBOUR: 'it returns false'. Refute it at one input. -/
def fnIsUnboundOrInjectedExcludesOtherClassesWrong : ChangeSpec := { name := "fnIsUnboundOrInjectedExcludesOtherClasses", fn := fun _ => fun
  | [d] => { results := [.lit (.bool false)], args := [d] }
  | _ => none }
def FnIsUnboundOrInjectedExcludesOtherClassesWrongFalsely : Prop := fnIsUnboundOrInjectedExcludesOtherClassesRow.holds Try.pinned (OpenSpec.ofChange fnIsUnboundOrInjectedExcludesOtherClassesWrong)

/-- 'n011_201.FnIsAssignExactlyTheSixteenAssignmentTokens': WHATEVER THE INPUT: true; the input reads as it did. -/
def fnIsAssignExactlyTheSixteenAssignmentTokensSpec : ChangeSpec := { name := "fnIsAssignExactlyTheSixteenAssignmentTokens", fn := fun _ => fun
  | [d] => { results := [.lit (.bool true)], args := [d] }
  | _ => none }
def fnIsAssignExactlyTheSixteenAssignmentTokensRow : OpenClaim := { program := "ytkhedaaaimnikaa", sum := "d751ab51f003846410328c08e2fde637e6f0e1ee3989bcece625bac48e1474ae", func := "github.com/evanw/esbuild/n011_201.FnIsAssignExactlyTheSixteenAssignmentTokens", spec := "fnIsAssignExactlyTheSixteenAssignmentTokens", apart := false }
def FnIsAssignExactlyTheSixteenAssignmentTokensSaid : Prop := fnIsAssignExactlyTheSixteenAssignmentTokensRow.holds Try.pinned (OpenSpec.ofChange fnIsAssignExactlyTheSixteenAssignmentTokensSpec)

/-- ITS FALSE NEIGHBOUR: 'it returns false'. Refute it at one input. -/
def fnIsAssignExactlyTheSixteenAssignmentTokensWrong : ChangeSpec := { name := "fnIsAssignExactlyTheSixteenAssignmentTokens", fn := fun _ => fun
  | [d] => { results := [.lit (.bool false)], args := [d] }
  | _ => none }
def FnIsAssignExactlyTheSixteenAssignmentTokensWrongFalsely : Prop := fnIsAssignExactlyTheSixteenAssignmentTokensRow.holds Try.pinned (OpenSpec.ofChange fnIsAssignExactlyTheSixteenAssignmentTokensWrong)

/-- 'n011_2.FnIsHexInvertsDigitEncoding': WHATEVER THE INPUT: true; the input reads as it did. -/
def fnIsHexInvertsDigitEncodingSpec : ChangeSpec := { name := "fnIsHexInvertsDigitEncoding", fn := fun _ => fun
  | [d1, d2] => { results := [.lit (.bool true)], args := [d1, d2] }
  | _ => none }
def fnIsHexInvertsDigitEncodingRow : OpenClaim := { program := "ytkhedaaaimnikaa", sum := "d751ab51f003846410328c08e2fde637e6f0e1ee3989bcece625bac48e1474ae", func := "github.com/evanw/esbuild/n011_2.FnIsHexInvertsDigitEncoding", spec := "fnIsHexInvertsDigitEncoding", apart := false }
def FnIsHexInvertsDigitEncodingSaid : Prop := fnIsHexInvertsDigitEncodingRow.holds Try.pinned (OpenSpec.ofChange fnIsHexInvertsDigitEncodingSpec)

/-- ITS FALSE NEIGHBOUR: 'it returns false'. Refute it at one input. -/
def fnIsHexInvertsDigitEncodingWrong : ChangeSpec := { name := "fnIsHexInvertsDigitEncoding", fn := fun _ => fun
  | [d1, d2] => { results := [.lit (.bool false)], args := [d1, d2] }
  | _ => none }
def FnIsHexInvertsDigitEncodingWrongFalsely : Prop := fnIsHexInvertsDigitEncodingRow.holds Try.pinned (OpenSpec.ofChange fnIsHexInvertsDigitEncodingWrong)

/-- 'n011_75.FnUnionMaxIsLeastUpperBound': WHATEVER THE INPUT: true; the input reads as it did. -/
def fnUnionMaxIsLeastUpperBoundSpec : ChangeSpec := { name := "fnUnionMaxIsLeastUpperBound", fn := fun _ => fun
  | [d1, d2] => { results := [.lit (.bool true)], args := [d1, d2] }
  | _ => none }
def fnUnionMaxIsLeastUpperBoundRow : OpenClaim := { program := "ytkhedaaaimnikaa", sum := "d751ab51f003846410328c08e2fde637e6f0e1ee3989bcece625bac48e1474ae", func := "github.com/evanw/esbuild/n011_75.FnUnionMaxIsLeastUpperBound", spec := "fnUnionMaxIsLeastUpperBound", apart := false }
def FnUnionMaxIsLeastUpperBoundSaid : Prop := fnUnionMaxIsLeastUpperBoundRow.holds Try.pinned (OpenSpec.ofChange fnUnionMaxIsLeastUpperBoundSpec)

/-- ITS FALSE NEIGHBOUR: 'it returns false'. Refute it at one input. -/
def fnUnionMaxIsLeastUpperBoundWrong : ChangeSpec := { name := "fnUnionMaxIsLeastUpperBound", fn := fun _ => fun
  | [d1, d2] => { results := [.lit (.bool false)], args := [d1, d2] }
  | _ => none }
def FnUnionMaxIsLeastUpperBoundWrongFalsely : Prop := fnUnionMaxIsLeastUpperBoundRow.holds Try.pinned (OpenSpec.ofChange fnUnionMaxIsLeastUpperBoundWrong)

/-- 'n011_50.FnIsNameContinueCoversStartAndHexExcludesSpace': WHATEVER THE INPUT: true; the input reads as it did. -/
def fnIsNameContinueCoversStartAndHexExcludesSpaceSpec : ChangeSpec := { name := "fnIsNameContinueCoversStartAndHexExcludesSpace", fn := fun _ => fun
  | [d] => { results := [.lit (.bool true)], args := [d] }
  | _ => none }
def fnIsNameContinueCoversStartAndHexExcludesSpaceRow : OpenClaim := { program := "ytkhedaaaimnikaa", sum := "d751ab51f003846410328c08e2fde637e6f0e1ee3989bcece625bac48e1474ae", func := "github.com/evanw/esbuild/n011_50.FnIsNameContinueCoversStartAndHexExcludesSpace", spec := "fnIsNameContinueCoversStartAndHexExcludesSpace", apart := false }
def FnIsNameContinueCoversStartAndHexExcludesSpaceSaid : Prop := fnIsNameContinueCoversStartAndHexExcludesSpaceRow.holds Try.pinned (OpenSpec.ofChange fnIsNameContinueCoversStartAndHexExcludesSpaceSpec)

/-- ITS FALSE NEIGHBOUR: 'it returns false'. Refute it at one input. -/
def fnIsNameContinueCoversStartAndHexExcludesSpaceWrong : ChangeSpec := { name := "fnIsNameContinueCoversStartAndHexExcludesSpace", fn := fun _ => fun
  | [d] => { results := [.lit (.bool false)], args := [d] }
  | _ => none }
def FnIsNameContinueCoversStartAndHexExcludesSpaceWrongFalsely : Prop := fnIsNameContinueCoversStartAndHexExcludesSpaceRow.holds Try.pinned (OpenSpec.ofChange fnIsNameContinueCoversStartAndHexExcludesSpaceWrong)

/-- 'n011_75.FnUnionMaxLatticeLaws': WHATEVER THE INPUT: true; the input reads as it did. -/
def fnUnionMaxLatticeLawsSpec : ChangeSpec := { name := "fnUnionMaxLatticeLaws", fn := fun _ => fun
  | [d1, d2, d3] => { results := [.lit (.bool true)], args := [d1, d2, d3] }
  | _ => none }
def fnUnionMaxLatticeLawsRow : OpenClaim := { program := "ytkhedaaaimnikaa", sum := "d751ab51f003846410328c08e2fde637e6f0e1ee3989bcece625bac48e1474ae", func := "github.com/evanw/esbuild/n011_75.FnUnionMaxLatticeLaws", spec := "fnUnionMaxLatticeLaws", apart := false }
def FnUnionMaxLatticeLawsSaid : Prop := fnUnionMaxLatticeLawsRow.holds Try.pinned (OpenSpec.ofChange fnUnionMaxLatticeLawsSpec)

/-- ITS FALSE NEIGHBOUR: 'it returns false'. Refute it at one input. -/
def fnUnionMaxLatticeLawsWrong : ChangeSpec := { name := "fnUnionMaxLatticeLaws", fn := fun _ => fun
  | [d1, d2, d3] => { results := [.lit (.bool false)], args := [d1, d2, d3] }
  | _ => none }
def FnUnionMaxLatticeLawsWrongFalsely : Prop := fnUnionMaxLatticeLawsRow.holds Try.pinned (OpenSpec.ofChange fnUnionMaxLatticeLawsWrong)

/- THE SECOND FORM. 'bulk': how many values and letters a reading holds, each counted each time it is reached (what is shared counts as often as it is met; a slice's spare places count too). A statement '..UptoSaid' is the law's where the arguments, and the package variables that the reading takes, are together of bulk at most 1048576: NARROWER than '..Said'. Prove '..Said' where nothing that the law and all that it calls make is longer than what came in: it says more and counts as full. Else prove '..UptoSaid'. A law counts once. -/
mutual
def uptoBulk {H : Type} : DataW H → Nat
  | .lit (.string bytes) => bytes.length + 1
  | .lit _ => 1
  | .nil => 1
  | .ptr d => uptoBulk d + 1
  | .slice elems spare => uptoBulkAll elems + uptoBulkAll spare + 1
  | .agg parts => uptoBulkAll parts + 1
  | .iface _ d => uptoBulk d + 1
  | .map entries => uptoBulkEntries entries + 1
  | .held _ => 1
def uptoBulkAll {H : Type} : List (DataW H) → Nat
  | [] => 0
  | d :: r => uptoBulk d + uptoBulkAll r
def uptoBulkEntries {H : Type} : List (Lit × DataW H) → Nat
  | [] => 0
  | x :: r => uptoBulkEntry x + uptoBulkEntries r
def uptoBulkEntry {H : Type} : Lit × DataW H → Nat
  | (.string bytes, d) => bytes.length + uptoBulk d + 1
  | (_, d) => uptoBulk d + 1
 end
def uptoSmall : (H : Type) → List (DataW H) → Bool := fun _ ds => decide (uptoBulkAll ds ≤ 1048576)
def OpenSpec.upto (s : _root_.Go.ChangeSpec) : _root_.Go.OpenSpec := { _root_.Go.OpenSpec.ofChange s with cond := some uptoSmall }

/-- 'n011_230.FnIsLetterASCIIModel', WHERE WHAT IT READS IS OF BULK AT MOST 1048576: true; the input reads as it did. -/
def fnIsLetterASCIIModelUptoRow : OpenClaim := { program := "ytkhedaaaimnikaa", sum := "d751ab51f003846410328c08e2fde637e6f0e1ee3989bcece625bac48e1474ae", func := "github.com/evanw/esbuild/n011_230.FnIsLetterASCIIModel", spec := "fnIsLetterASCIIModel", apart := false, narrowed := true }
def FnIsLetterASCIIModelUptoSaid : Prop := fnIsLetterASCIIModelUptoRow.holds Try.pinned (OpenSpec.upto fnIsLetterASCIIModelSpec)

/-- 'n011_230.FnIsUpperASCIIIsLetterWithCaseBitClear', WHERE WHAT IT READS IS OF BULK AT MOST 1048576: true; the input reads as it did. -/
def fnIsUpperASCIIIsLetterWithCaseBitClearUptoRow : OpenClaim := { program := "ytkhedaaaimnikaa", sum := "d751ab51f003846410328c08e2fde637e6f0e1ee3989bcece625bac48e1474ae", func := "github.com/evanw/esbuild/n011_230.FnIsUpperASCIIIsLetterWithCaseBitClear", spec := "fnIsUpperASCIIIsLetterWithCaseBitClear", apart := false, narrowed := true }
def FnIsUpperASCIIIsLetterWithCaseBitClearUptoSaid : Prop := fnIsUpperASCIIIsLetterWithCaseBitClearUptoRow.holds Try.pinned (OpenSpec.upto fnIsUpperASCIIIsLetterWithCaseBitClearSpec)

/-- 'n011_50.FnIsNonPrintableBitmaskModel', WHERE WHAT IT READS IS OF BULK AT MOST 1048576: true; the input reads as it did. -/
def fnIsNonPrintableBitmaskModelUptoRow : OpenClaim := { program := "ytkhedaaaimnikaa", sum := "d751ab51f003846410328c08e2fde637e6f0e1ee3989bcece625bac48e1474ae", func := "github.com/evanw/esbuild/n011_50.FnIsNonPrintableBitmaskModel", spec := "fnIsNonPrintableBitmaskModel", apart := false, narrowed := true }
def FnIsNonPrintableBitmaskModelUptoSaid : Prop := fnIsNonPrintableBitmaskModelUptoRow.holds Try.pinned (OpenSpec.upto fnIsNonPrintableBitmaskModelSpec)

/-- 'n011_50.FnIsNewlineExactRange', WHERE WHAT IT READS IS OF BULK AT MOST 1048576: true; the input reads as it did. -/
def fnIsNewlineExactRangeUptoRow : OpenClaim := { program := "ytkhedaaaimnikaa", sum := "d751ab51f003846410328c08e2fde637e6f0e1ee3989bcece625bac48e1474ae", func := "github.com/evanw/esbuild/n011_50.FnIsNewlineExactRange", spec := "fnIsNewlineExactRange", apart := false, narrowed := true }
def FnIsNewlineExactRangeUptoSaid : Prop := fnIsNewlineExactRangeUptoRow.holds Try.pinned (OpenSpec.upto fnIsNewlineExactRangeSpec)

/-- 'n011_50.FnIsWhitespaceNeitherNonPrintableNorName', WHERE WHAT IT READS IS OF BULK AT MOST 1048576: true; the input reads as it did. -/
def fnIsWhitespaceNeitherNonPrintableNorNameUptoRow : OpenClaim := { program := "ytkhedaaaimnikaa", sum := "d751ab51f003846410328c08e2fde637e6f0e1ee3989bcece625bac48e1474ae", func := "github.com/evanw/esbuild/n011_50.FnIsWhitespaceNeitherNonPrintableNorName", spec := "fnIsWhitespaceNeitherNonPrintableNorName", apart := false, narrowed := true }
def FnIsWhitespaceNeitherNonPrintableNorNameUptoSaid : Prop := fnIsWhitespaceNeitherNonPrintableNorNameUptoRow.holds Try.pinned (OpenSpec.upto fnIsWhitespaceNeitherNonPrintableNorNameSpec)

/-- 'n011_75.FnIsUnboundOrInjectedExcludesOtherClasses', WHERE WHAT IT READS IS OF BULK AT MOST 1048576: true; the input reads as it did. -/
def fnIsUnboundOrInjectedExcludesOtherClassesUptoRow : OpenClaim := { program := "ytkhedaaaimnikaa", sum := "d751ab51f003846410328c08e2fde637e6f0e1ee3989bcece625bac48e1474ae", func := "github.com/evanw/esbuild/n011_75.FnIsUnboundOrInjectedExcludesOtherClasses", spec := "fnIsUnboundOrInjectedExcludesOtherClasses", apart := false, narrowed := true }
def FnIsUnboundOrInjectedExcludesOtherClassesUptoSaid : Prop := fnIsUnboundOrInjectedExcludesOtherClassesUptoRow.holds Try.pinned (OpenSpec.upto fnIsUnboundOrInjectedExcludesOtherClassesSpec)

/-- 'n011_201.FnIsAssignExactlyTheSixteenAssignmentTokens', WHERE WHAT IT READS IS OF BULK AT MOST 1048576: true; the input reads as it did. -/
def fnIsAssignExactlyTheSixteenAssignmentTokensUptoRow : OpenClaim := { program := "ytkhedaaaimnikaa", sum := "d751ab51f003846410328c08e2fde637e6f0e1ee3989bcece625bac48e1474ae", func := "github.com/evanw/esbuild/n011_201.FnIsAssignExactlyTheSixteenAssignmentTokens", spec := "fnIsAssignExactlyTheSixteenAssignmentTokens", apart := false, narrowed := true }
def FnIsAssignExactlyTheSixteenAssignmentTokensUptoSaid : Prop := fnIsAssignExactlyTheSixteenAssignmentTokensUptoRow.holds Try.pinned (OpenSpec.upto fnIsAssignExactlyTheSixteenAssignmentTokensSpec)

/-- 'n011_2.FnIsHexInvertsDigitEncoding', WHERE WHAT IT READS IS OF BULK AT MOST 1048576: true; the input reads as it did. -/
def fnIsHexInvertsDigitEncodingUptoRow : OpenClaim := { program := "ytkhedaaaimnikaa", sum := "d751ab51f003846410328c08e2fde637e6f0e1ee3989bcece625bac48e1474ae", func := "github.com/evanw/esbuild/n011_2.FnIsHexInvertsDigitEncoding", spec := "fnIsHexInvertsDigitEncoding", apart := false, narrowed := true }
def FnIsHexInvertsDigitEncodingUptoSaid : Prop := fnIsHexInvertsDigitEncodingUptoRow.holds Try.pinned (OpenSpec.upto fnIsHexInvertsDigitEncodingSpec)

/-- 'n011_75.FnUnionMaxIsLeastUpperBound', WHERE WHAT IT READS IS OF BULK AT MOST 1048576: true; the input reads as it did. -/
def fnUnionMaxIsLeastUpperBoundUptoRow : OpenClaim := { program := "ytkhedaaaimnikaa", sum := "d751ab51f003846410328c08e2fde637e6f0e1ee3989bcece625bac48e1474ae", func := "github.com/evanw/esbuild/n011_75.FnUnionMaxIsLeastUpperBound", spec := "fnUnionMaxIsLeastUpperBound", apart := false, narrowed := true }
def FnUnionMaxIsLeastUpperBoundUptoSaid : Prop := fnUnionMaxIsLeastUpperBoundUptoRow.holds Try.pinned (OpenSpec.upto fnUnionMaxIsLeastUpperBoundSpec)

/-- 'n011_50.FnIsNameContinueCoversStartAndHexExcludesSpace', WHERE WHAT IT READS IS OF BULK AT MOST 1048576: true; the input reads as it did. -/
def fnIsNameContinueCoversStartAndHexExcludesSpaceUptoRow : OpenClaim := { program := "ytkhedaaaimnikaa", sum := "d751ab51f003846410328c08e2fde637e6f0e1ee3989bcece625bac48e1474ae", func := "github.com/evanw/esbuild/n011_50.FnIsNameContinueCoversStartAndHexExcludesSpace", spec := "fnIsNameContinueCoversStartAndHexExcludesSpace", apart := false, narrowed := true }
def FnIsNameContinueCoversStartAndHexExcludesSpaceUptoSaid : Prop := fnIsNameContinueCoversStartAndHexExcludesSpaceUptoRow.holds Try.pinned (OpenSpec.upto fnIsNameContinueCoversStartAndHexExcludesSpaceSpec)

/-- 'n011_75.FnUnionMaxLatticeLaws', WHERE WHAT IT READS IS OF BULK AT MOST 1048576: true; the input reads as it did. -/
def fnUnionMaxLatticeLawsUptoRow : OpenClaim := { program := "ytkhedaaaimnikaa", sum := "d751ab51f003846410328c08e2fde637e6f0e1ee3989bcece625bac48e1474ae", func := "github.com/evanw/esbuild/n011_75.FnUnionMaxLatticeLaws", spec := "fnUnionMaxLatticeLaws", apart := false, narrowed := true }
def FnUnionMaxLatticeLawsUptoSaid : Prop := fnUnionMaxLatticeLawsUptoRow.holds Try.pinned (OpenSpec.upto fnUnionMaxLatticeLawsSpec)

end Rows
end Go.Proofs.Ytkhedaaaimnikaa
