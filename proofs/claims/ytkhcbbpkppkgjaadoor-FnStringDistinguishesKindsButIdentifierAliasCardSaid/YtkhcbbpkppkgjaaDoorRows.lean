/-
  NARROWER THAN 'FOR EVERY INPUT', by the rows' own cells (each row's printed sentence says how): FnWouldStartIdentifierCaseTable: laid · FnIsValidEscapeCaseTable: laid · FnWouldStartIdentifierWithoutEscapesExtension: laid · FnRangeOfIdentifierEscapeFreeIsNameRun: laid · FnStringDistinguishesKindsButIdentifierAlias: laid · FnWouldStartNumberIsPureAndLocal: laid.
  DERIVED. THE GIVEN ROWS OF THIS SEAT. 6 by the template 'for every input the law returns true; each argument reads behind the call as it read before'; 0 by the template 'total and deterministic' (their statements: YtkhcbbpkppkgjaaDoorTotals.lean).
  GIVEN WITH THE SEED: the statements are not yours to turn. If you find one false, say at which input.
  Laid BY PROGRAM, IN A SANDBOX (cutbox-rows.mjs): the forced cells as the released guide's own fill.sh prints them over the translation b29189e69e1469e5… (all of the seat's roots in one cut). By AI agents, Wed Nov 11 2026. No macro, syntax, notation, axiom, sorry.
-/
import Derived.Test.YtkhcbbpkppkgjaaDoorChecked
import GoSem.PinnedTables
import GoSem.Claim
import GoSem.ClaimJoined
import GoSem.ClaimMapViews
import Derived.JoinedTies
import Derived.KernelRfl
namespace Go.Proofs.YtkhcbbpkppkgjaaDoor
/- THE CELL 'sum', in the pinned program and in every row, IS THE sha256 OF THE DUMP (.gsa) THAT YtkhcbbpkppkgjaaDoorProg.lean LOADS. Nothing in Lean hashes anything: it is a label: what it is worth is what the hold of that sum in a sandbox is worth. -/
noncomputable def Tryd.pinned : Pinned := { name := "ytkhcbbpkppkgjaadoor", sum := "b29189e69e1469e5ff3e1733858c60697c38a1b153412f44cb7c628a179a81b6", checked := Tryd.checked }
namespace Rows
def none {H : Type} : Left H := { results := [], args := [] }

/- WHAT THE LISTED PACKAGE-LEVEL VARIABLES READ AS WHEN THE CALL BEGINS. Each datum BY PROGRAM (the guide's laid-datum.mjs) off the statement by which the dump's own 'gosem.cut.vars' lays the variable. In a bare row this is a premise. The card (YtkhcbbpkppkgjaaDoorCards.lean) ties it to the program's text. -/
def laid_unicode_utf8_acceptRanges {H : Type} : DataW H := .agg [.agg [.lit (.int .u8 128), .lit (.int .u8 191)], .agg [.lit (.int .u8 160), .lit (.int .u8 191)], .agg [.lit (.int .u8 128), .lit (.int .u8 159)], .agg [.lit (.int .u8 144), .lit (.int .u8 191)], .agg [.lit (.int .u8 128), .lit (.int .u8 143)], .agg [.lit (.int .u8 0), .lit (.int .u8 0)], .agg [.lit (.int .u8 0), .lit (.int .u8 0)], .agg [.lit (.int .u8 0), .lit (.int .u8 0)], .agg [.lit (.int .u8 0), .lit (.int .u8 0)], .agg [.lit (.int .u8 0), .lit (.int .u8 0)], .agg [.lit (.int .u8 0), .lit (.int .u8 0)], .agg [.lit (.int .u8 0), .lit (.int .u8 0)], .agg [.lit (.int .u8 0), .lit (.int .u8 0)], .agg [.lit (.int .u8 0), .lit (.int .u8 0)], .agg [.lit (.int .u8 0), .lit (.int .u8 0)], .agg [.lit (.int .u8 0), .lit (.int .u8 0)]]
/-- One of Go's own tables, pinned by name: the form's constant. -/
def laid_unicode_utf8_first : DataW Unit := Go.Pinned.utf8First
def laid_github_com_evanw_esbuild_internal_css_lexer_tokenToString {H : Type} : DataW H := .slice [.lit (.string [101, 110, 100, 32, 111, 102, 32, 102, 105, 108, 101]), .lit (.string [64, 45, 107, 101, 121, 119, 111, 114, 100]), .lit (.string [98, 97, 100, 32, 115, 116, 114, 105, 110, 103, 32, 116, 111, 107, 101, 110]), .lit (.string [98, 97, 100, 32, 85, 82, 76, 32, 116, 111, 107, 101, 110]), .lit (.string [34, 45, 45, 62, 34]), .lit (.string [34, 60, 33, 45, 45, 34]), .lit (.string [34, 125, 34]), .lit (.string [34, 93, 34]), .lit (.string [34, 41, 34]), .lit (.string [34, 58, 34]), .lit (.string [34, 44, 34]), .lit (.string [100, 101, 108, 105, 109, 105, 116, 101, 114]), .lit (.string [34, 38, 34]), .lit (.string [34, 42, 34]), .lit (.string [34, 124, 34]), .lit (.string [34, 94, 34]), .lit (.string [34, 36, 34]), .lit (.string [34, 46, 34]), .lit (.string [34, 61, 34]), .lit (.string [34, 33, 34]), .lit (.string [34, 62, 34]), .lit (.string [34, 60, 34]), .lit (.string [34, 45, 34]), .lit (.string [34, 43, 34]), .lit (.string [34, 47, 34]), .lit (.string [34, 126, 34]), .lit (.string [100, 105, 109, 101, 110, 115, 105, 111, 110]), .lit (.string [102, 117, 110, 99, 116, 105, 111, 110, 32, 116, 111, 107, 101, 110]), .lit (.string [104, 97, 115, 104, 32, 116, 111, 107, 101, 110]), .lit (.string [105, 100, 101, 110, 116, 105, 102, 105, 101, 114]), .lit (.string [110, 117, 109, 98, 101, 114]), .lit (.string [34, 123, 34]), .lit (.string [34, 91, 34]), .lit (.string [34, 40, 34]), .lit (.string [112, 101, 114, 99, 101, 110, 116, 97, 103, 101]), .lit (.string [34, 59, 34]), .lit (.string [115, 116, 114, 105, 110, 103, 32, 116, 111, 107, 101, 110]), .lit (.string [85, 82, 76, 32, 116, 111, 107, 101, 110]), .lit (.string [119, 104, 105, 116, 101, 115, 112, 97, 99, 101]), .lit (.string [105, 100, 101, 110, 116, 105, 102, 105, 101, 114])] []

/-- 'n011_187.FnWouldStartIdentifierCaseTable': WHATEVER THE INPUT: true; the input reads as it did. -/
def fnWouldStartIdentifierCaseTableSpec : ChangeSpec := { name := "fnWouldStartIdentifierCaseTable", fn := fun _ => fun
  | [d1, d2] => { results := [.lit (.bool true)], args := [d1, d2] }
  | _ => none }
def fnWouldStartIdentifierCaseTableRow : OpenClaim := { program := "ytkhcbbpkppkgjaadoor", sum := "b29189e69e1469e5ff3e1733858c60697c38a1b153412f44cb7c628a179a81b6", func := "github.com/evanw/esbuild/n011_187.FnWouldStartIdentifierCaseTable", spec := "fnWouldStartIdentifierCaseTable", named := ["unicode/utf8.first", "unicode/utf8.acceptRanges"], apart := false, laid := [("unicode/utf8.acceptRanges", laid_unicode_utf8_acceptRanges), ("unicode/utf8.first", laid_unicode_utf8_first)] }
def FnWouldStartIdentifierCaseTableSaid : Prop := fnWouldStartIdentifierCaseTableRow.holds Tryd.pinned (OpenSpec.ofChange fnWouldStartIdentifierCaseTableSpec)

/-- ITS FALSE NEIGHBOUR: 'it returns false'. Refute it at one input. -/
def fnWouldStartIdentifierCaseTableWrong : ChangeSpec := { name := "fnWouldStartIdentifierCaseTable", fn := fun _ => fun
  | [d1, d2] => { results := [.lit (.bool false)], args := [d1, d2] }
  | _ => none }
def FnWouldStartIdentifierCaseTableWrongFalsely : Prop := fnWouldStartIdentifierCaseTableRow.holds Tryd.pinned (OpenSpec.ofChange fnWouldStartIdentifierCaseTableWrong)

/-- 'n011_187.FnIsValidEscapeCaseTable': WHATEVER THE INPUT: true; the input reads as it did. -/
def fnIsValidEscapeCaseTableSpec : ChangeSpec := { name := "fnIsValidEscapeCaseTable", fn := fun _ => fun
  | [d1, d2] => { results := [.lit (.bool true)], args := [d1, d2] }
  | _ => none }
def fnIsValidEscapeCaseTableRow : OpenClaim := { program := "ytkhcbbpkppkgjaadoor", sum := "b29189e69e1469e5ff3e1733858c60697c38a1b153412f44cb7c628a179a81b6", func := "github.com/evanw/esbuild/n011_187.FnIsValidEscapeCaseTable", spec := "fnIsValidEscapeCaseTable", named := ["unicode/utf8.first", "unicode/utf8.acceptRanges"], apart := false, laid := [("unicode/utf8.acceptRanges", laid_unicode_utf8_acceptRanges), ("unicode/utf8.first", laid_unicode_utf8_first)] }
def FnIsValidEscapeCaseTableSaid : Prop := fnIsValidEscapeCaseTableRow.holds Tryd.pinned (OpenSpec.ofChange fnIsValidEscapeCaseTableSpec)

/-- ITS FALSE NEIGHBOUR: 'it returns false'. Refute it at one input. -/
def fnIsValidEscapeCaseTableWrong : ChangeSpec := { name := "fnIsValidEscapeCaseTable", fn := fun _ => fun
  | [d1, d2] => { results := [.lit (.bool false)], args := [d1, d2] }
  | _ => none }
def FnIsValidEscapeCaseTableWrongFalsely : Prop := fnIsValidEscapeCaseTableRow.holds Tryd.pinned (OpenSpec.ofChange fnIsValidEscapeCaseTableWrong)

/-- 'n011_187.FnWouldStartIdentifierWithoutEscapesExtension': WHATEVER THE INPUT: true; the input reads as it did. -/
def fnWouldStartIdentifierWithoutEscapesExtensionSpec : ChangeSpec := { name := "fnWouldStartIdentifierWithoutEscapesExtension", fn := fun _ => fun
  | [d1, d2] => { results := [.lit (.bool true)], args := [d1, d2] }
  | _ => none }
def fnWouldStartIdentifierWithoutEscapesExtensionRow : OpenClaim := { program := "ytkhcbbpkppkgjaadoor", sum := "b29189e69e1469e5ff3e1733858c60697c38a1b153412f44cb7c628a179a81b6", func := "github.com/evanw/esbuild/n011_187.FnWouldStartIdentifierWithoutEscapesExtension", spec := "fnWouldStartIdentifierWithoutEscapesExtension", named := ["unicode/utf8.first", "unicode/utf8.acceptRanges"], apart := false, laid := [("unicode/utf8.acceptRanges", laid_unicode_utf8_acceptRanges), ("unicode/utf8.first", laid_unicode_utf8_first)] }
def FnWouldStartIdentifierWithoutEscapesExtensionSaid : Prop := fnWouldStartIdentifierWithoutEscapesExtensionRow.holds Tryd.pinned (OpenSpec.ofChange fnWouldStartIdentifierWithoutEscapesExtensionSpec)

/-- ITS FALSE NEIGHBOUR: 'it returns false'. Refute it at one input. -/
def fnWouldStartIdentifierWithoutEscapesExtensionWrong : ChangeSpec := { name := "fnWouldStartIdentifierWithoutEscapesExtension", fn := fun _ => fun
  | [d1, d2] => { results := [.lit (.bool false)], args := [d1, d2] }
  | _ => none }
def FnWouldStartIdentifierWithoutEscapesExtensionWrongFalsely : Prop := fnWouldStartIdentifierWithoutEscapesExtensionRow.holds Tryd.pinned (OpenSpec.ofChange fnWouldStartIdentifierWithoutEscapesExtensionWrong)

/-- 'n011_187.FnRangeOfIdentifierEscapeFreeIsNameRun': WHATEVER THE INPUT: true; the input reads as it did. -/
def fnRangeOfIdentifierEscapeFreeIsNameRunSpec : ChangeSpec := { name := "fnRangeOfIdentifierEscapeFreeIsNameRun", fn := fun _ => fun
  | [d1, d2] => { results := [.lit (.bool true)], args := [d1, d2] }
  | _ => none }
def fnRangeOfIdentifierEscapeFreeIsNameRunRow : OpenClaim := { program := "ytkhcbbpkppkgjaadoor", sum := "b29189e69e1469e5ff3e1733858c60697c38a1b153412f44cb7c628a179a81b6", func := "github.com/evanw/esbuild/n011_187.FnRangeOfIdentifierEscapeFreeIsNameRun", spec := "fnRangeOfIdentifierEscapeFreeIsNameRun", named := ["unicode/utf8.first", "unicode/utf8.acceptRanges"], apart := false, laid := [("unicode/utf8.acceptRanges", laid_unicode_utf8_acceptRanges), ("unicode/utf8.first", laid_unicode_utf8_first)] }
def FnRangeOfIdentifierEscapeFreeIsNameRunSaid : Prop := fnRangeOfIdentifierEscapeFreeIsNameRunRow.holds Tryd.pinned (OpenSpec.ofChange fnRangeOfIdentifierEscapeFreeIsNameRunSpec)

/-- ITS FALSE NEIGHBOUR: 'it returns false'. Refute it at one input. -/
def fnRangeOfIdentifierEscapeFreeIsNameRunWrong : ChangeSpec := { name := "fnRangeOfIdentifierEscapeFreeIsNameRun", fn := fun _ => fun
  | [d1, d2] => { results := [.lit (.bool false)], args := [d1, d2] }
  | _ => none }
def FnRangeOfIdentifierEscapeFreeIsNameRunWrongFalsely : Prop := fnRangeOfIdentifierEscapeFreeIsNameRunRow.holds Tryd.pinned (OpenSpec.ofChange fnRangeOfIdentifierEscapeFreeIsNameRunWrong)

/-- 'n011_281.FnStringDistinguishesKindsButIdentifierAlias': WHATEVER THE INPUT: true; the input reads as it did. -/
def fnStringDistinguishesKindsButIdentifierAliasSpec : ChangeSpec := { name := "fnStringDistinguishesKindsButIdentifierAlias", vars := ["github.com/evanw/esbuild/internal/css_lexer.tokenToString"], fn := fun _ => fun
  | [d1, d2, g1] => { results := [.lit (.bool true)], args := [d1, d2], vars := [g1] }
  | _ => none }
def fnStringDistinguishesKindsButIdentifierAliasRow : OpenClaim := { program := "ytkhcbbpkppkgjaadoor", sum := "b29189e69e1469e5ff3e1733858c60697c38a1b153412f44cb7c628a179a81b6", func := "github.com/evanw/esbuild/n011_281.FnStringDistinguishesKindsButIdentifierAlias", spec := "fnStringDistinguishesKindsButIdentifierAlias", named := ["github.com/evanw/esbuild/internal/css_lexer.tokenToString"], apart := false, laid := [("github.com/evanw/esbuild/internal/css_lexer.tokenToString", laid_github_com_evanw_esbuild_internal_css_lexer_tokenToString)] }
def FnStringDistinguishesKindsButIdentifierAliasSaid : Prop := fnStringDistinguishesKindsButIdentifierAliasRow.holds Tryd.pinned (OpenSpec.ofChange fnStringDistinguishesKindsButIdentifierAliasSpec)

/-- ITS FALSE NEIGHBOUR: 'it returns false'. Refute it at one input. -/
def fnStringDistinguishesKindsButIdentifierAliasWrong : ChangeSpec := { name := "fnStringDistinguishesKindsButIdentifierAlias", vars := ["github.com/evanw/esbuild/internal/css_lexer.tokenToString"], fn := fun _ => fun
  | [d1, d2, g1] => { results := [.lit (.bool false)], args := [d1, d2], vars := [g1] }
  | _ => none }
def FnStringDistinguishesKindsButIdentifierAliasWrongFalsely : Prop := fnStringDistinguishesKindsButIdentifierAliasRow.holds Tryd.pinned (OpenSpec.ofChange fnStringDistinguishesKindsButIdentifierAliasWrong)

/-- 'n011_170.FnWouldStartNumberIsPureAndLocal': WHATEVER THE INPUT: true; the input reads as it did. -/
def fnWouldStartNumberIsPureAndLocalSpec : ChangeSpec := { name := "fnWouldStartNumberIsPureAndLocal", fn := fun _ => fun
  | [d] => { results := [.lit (.bool true)], args := [d] }
  | _ => none }
def fnWouldStartNumberIsPureAndLocalRow : OpenClaim := { program := "ytkhcbbpkppkgjaadoor", sum := "b29189e69e1469e5ff3e1733858c60697c38a1b153412f44cb7c628a179a81b6", func := "github.com/evanw/esbuild/n011_170.FnWouldStartNumberIsPureAndLocal", spec := "fnWouldStartNumberIsPureAndLocal", named := ["unicode/utf8.first", "unicode/utf8.acceptRanges"], apart := false, laid := [("unicode/utf8.acceptRanges", laid_unicode_utf8_acceptRanges), ("unicode/utf8.first", laid_unicode_utf8_first)] }
def FnWouldStartNumberIsPureAndLocalSaid : Prop := fnWouldStartNumberIsPureAndLocalRow.holds Tryd.pinned (OpenSpec.ofChange fnWouldStartNumberIsPureAndLocalSpec)

/-- ITS FALSE NEIGHBOUR: 'it returns false'. Refute it at one input. -/
def fnWouldStartNumberIsPureAndLocalWrong : ChangeSpec := { name := "fnWouldStartNumberIsPureAndLocal", fn := fun _ => fun
  | [d] => { results := [.lit (.bool false)], args := [d] }
  | _ => none }
def FnWouldStartNumberIsPureAndLocalWrongFalsely : Prop := fnWouldStartNumberIsPureAndLocalRow.holds Tryd.pinned (OpenSpec.ofChange fnWouldStartNumberIsPureAndLocalWrong)

/- THE SECOND FORM. 'bulk': how many values and letters a reading holds, each counted each time it is reached (what is shared counts as often as it is met; a slice's spare places count too). A statement '..UptoSaid' is the law's where the arguments, and the package variables that the reading takes, are together of bulk at most 1048576: NARROWER than '..Said'. Prove '..Said' where nothing that the law and all that it calls make is longer than what came in: it says more and counts as full. Else prove '..UptoSaid'. A law counts once. -/
mutual
def uptoBulk {H : Type} : DataW H → Nat
  | .lit (.string bytes) => bytes.length + 1
  | .lit _ => 1
  | .nil => 1
  | .ptr d => uptoBulk d + 1
  | .slice elems spare => uptoBulkAll elems + uptoBulkAll spare + 1
  | .agg parts => uptoBulkAll parts + 1
  | .iface _ d => uptoBulk d + 1
  | .map entries => uptoBulkEntries entries + 1
  | .held _ => 1
def uptoBulkAll {H : Type} : List (DataW H) → Nat
  | [] => 0
  | d :: r => uptoBulk d + uptoBulkAll r
def uptoBulkEntries {H : Type} : List (Lit × DataW H) → Nat
  | [] => 0
  | x :: r => uptoBulkEntry x + uptoBulkEntries r
def uptoBulkEntry {H : Type} : Lit × DataW H → Nat
  | (.string bytes, d) => bytes.length + uptoBulk d + 1
  | (_, d) => uptoBulk d + 1
 end
def uptoSmall : (H : Type) → List (DataW H) → Bool := fun _ ds => decide (uptoBulkAll ds ≤ 1048576)
def OpenSpec.upto (s : _root_.Go.ChangeSpec) : _root_.Go.OpenSpec := { _root_.Go.OpenSpec.ofChange s with cond := some uptoSmall }

/-- 'n011_187.FnWouldStartIdentifierCaseTable', WHERE WHAT IT READS IS OF BULK AT MOST 1048576: true; the input reads as it did. -/
def fnWouldStartIdentifierCaseTableUptoRow : OpenClaim := { program := "ytkhcbbpkppkgjaadoor", sum := "b29189e69e1469e5ff3e1733858c60697c38a1b153412f44cb7c628a179a81b6", func := "github.com/evanw/esbuild/n011_187.FnWouldStartIdentifierCaseTable", spec := "fnWouldStartIdentifierCaseTable", named := ["unicode/utf8.first", "unicode/utf8.acceptRanges"], apart := false, laid := [("unicode/utf8.acceptRanges", laid_unicode_utf8_acceptRanges), ("unicode/utf8.first", laid_unicode_utf8_first)], narrowed := true }
def FnWouldStartIdentifierCaseTableUptoSaid : Prop := fnWouldStartIdentifierCaseTableUptoRow.holds Tryd.pinned (OpenSpec.upto fnWouldStartIdentifierCaseTableSpec)

/-- 'n011_187.FnIsValidEscapeCaseTable', WHERE WHAT IT READS IS OF BULK AT MOST 1048576: true; the input reads as it did. -/
def fnIsValidEscapeCaseTableUptoRow : OpenClaim := { program := "ytkhcbbpkppkgjaadoor", sum := "b29189e69e1469e5ff3e1733858c60697c38a1b153412f44cb7c628a179a81b6", func := "github.com/evanw/esbuild/n011_187.FnIsValidEscapeCaseTable", spec := "fnIsValidEscapeCaseTable", named := ["unicode/utf8.first", "unicode/utf8.acceptRanges"], apart := false, laid := [("unicode/utf8.acceptRanges", laid_unicode_utf8_acceptRanges), ("unicode/utf8.first", laid_unicode_utf8_first)], narrowed := true }
def FnIsValidEscapeCaseTableUptoSaid : Prop := fnIsValidEscapeCaseTableUptoRow.holds Tryd.pinned (OpenSpec.upto fnIsValidEscapeCaseTableSpec)

/-- 'n011_187.FnWouldStartIdentifierWithoutEscapesExtension', WHERE WHAT IT READS IS OF BULK AT MOST 1048576: true; the input reads as it did. -/
def fnWouldStartIdentifierWithoutEscapesExtensionUptoRow : OpenClaim := { program := "ytkhcbbpkppkgjaadoor", sum := "b29189e69e1469e5ff3e1733858c60697c38a1b153412f44cb7c628a179a81b6", func := "github.com/evanw/esbuild/n011_187.FnWouldStartIdentifierWithoutEscapesExtension", spec := "fnWouldStartIdentifierWithoutEscapesExtension", named := ["unicode/utf8.first", "unicode/utf8.acceptRanges"], apart := false, laid := [("unicode/utf8.acceptRanges", laid_unicode_utf8_acceptRanges), ("unicode/utf8.first", laid_unicode_utf8_first)], narrowed := true }
def FnWouldStartIdentifierWithoutEscapesExtensionUptoSaid : Prop := fnWouldStartIdentifierWithoutEscapesExtensionUptoRow.holds Tryd.pinned (OpenSpec.upto fnWouldStartIdentifierWithoutEscapesExtensionSpec)

/-- 'n011_187.FnRangeOfIdentifierEscapeFreeIsNameRun', WHERE WHAT IT READS IS OF BULK AT MOST 1048576: true; the input reads as it did. -/
def fnRangeOfIdentifierEscapeFreeIsNameRunUptoRow : OpenClaim := { program := "ytkhcbbpkppkgjaadoor", sum := "b29189e69e1469e5ff3e1733858c60697c38a1b153412f44cb7c628a179a81b6", func := "github.com/evanw/esbuild/n011_187.FnRangeOfIdentifierEscapeFreeIsNameRun", spec := "fnRangeOfIdentifierEscapeFreeIsNameRun", named := ["unicode/utf8.first", "unicode/utf8.acceptRanges"], apart := false, laid := [("unicode/utf8.acceptRanges", laid_unicode_utf8_acceptRanges), ("unicode/utf8.first", laid_unicode_utf8_first)], narrowed := true }
def FnRangeOfIdentifierEscapeFreeIsNameRunUptoSaid : Prop := fnRangeOfIdentifierEscapeFreeIsNameRunUptoRow.holds Tryd.pinned (OpenSpec.upto fnRangeOfIdentifierEscapeFreeIsNameRunSpec)

/-- 'n011_281.FnStringDistinguishesKindsButIdentifierAlias', WHERE WHAT IT READS IS OF BULK AT MOST 1048576: true; the input reads as it did. -/
def fnStringDistinguishesKindsButIdentifierAliasUptoRow : OpenClaim := { program := "ytkhcbbpkppkgjaadoor", sum := "b29189e69e1469e5ff3e1733858c60697c38a1b153412f44cb7c628a179a81b6", func := "github.com/evanw/esbuild/n011_281.FnStringDistinguishesKindsButIdentifierAlias", spec := "fnStringDistinguishesKindsButIdentifierAlias", named := ["github.com/evanw/esbuild/internal/css_lexer.tokenToString"], apart := false, laid := [("github.com/evanw/esbuild/internal/css_lexer.tokenToString", laid_github_com_evanw_esbuild_internal_css_lexer_tokenToString)], narrowed := true }
def FnStringDistinguishesKindsButIdentifierAliasUptoSaid : Prop := fnStringDistinguishesKindsButIdentifierAliasUptoRow.holds Tryd.pinned (OpenSpec.upto fnStringDistinguishesKindsButIdentifierAliasSpec)

/-- 'n011_170.FnWouldStartNumberIsPureAndLocal', WHERE WHAT IT READS IS OF BULK AT MOST 1048576: true; the input reads as it did. -/
def fnWouldStartNumberIsPureAndLocalUptoRow : OpenClaim := { program := "ytkhcbbpkppkgjaadoor", sum := "b29189e69e1469e5ff3e1733858c60697c38a1b153412f44cb7c628a179a81b6", func := "github.com/evanw/esbuild/n011_170.FnWouldStartNumberIsPureAndLocal", spec := "fnWouldStartNumberIsPureAndLocal", named := ["unicode/utf8.first", "unicode/utf8.acceptRanges"], apart := false, laid := [("unicode/utf8.acceptRanges", laid_unicode_utf8_acceptRanges), ("unicode/utf8.first", laid_unicode_utf8_first)], narrowed := true }
def FnWouldStartNumberIsPureAndLocalUptoSaid : Prop := fnWouldStartNumberIsPureAndLocalUptoRow.holds Tryd.pinned (OpenSpec.upto fnWouldStartNumberIsPureAndLocalSpec)

end Rows
end Go.Proofs.YtkhcbbpkppkgjaaDoor
