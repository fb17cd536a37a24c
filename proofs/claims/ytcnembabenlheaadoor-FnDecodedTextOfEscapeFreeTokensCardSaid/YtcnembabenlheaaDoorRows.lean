/-
  NARROWER THAN 'FOR EVERY INPUT', by the rows' own cells (each row's printed sentence says how): FnScanPragmaArgSpanInsideText: laid · FnDecodeEscapesPlainTextNormalizesNewlines: laid · FnDecodeEscapesUnicodeEscapeRoundTrip: laid · FnCookedIsNilOnBadEscapeRawKept: laid · FnDecodedTextOfEscapeFreeTokens: laid.
  DERIVED. THE GIVEN ROWS OF THIS SEAT. 5 by the template 'for every input the law returns true; each argument reads behind the call as it read before'; 0 by the template 'total and deterministic' (their statements: YtcnembabenlheaaDoorTotals.lean).
  GIVEN WITH THE SEED: the statements are not yours to turn. If you find one false, say at which input.
  Laid BY PROGRAM, IN A SANDBOX (cutbox-rows.mjs): the forced cells as the released guide's own fill.sh prints them over the translation 3ceb42207b2aa9b7… (all of the seat's roots in one cut). By AI agents, Wed Nov 11 2026. No macro, syntax, notation, axiom, sorry.
-/
import Derived.Test.YtcnembabenlheaaDoorChecked
import GoSem.PinnedTables
import GoSem.Claim
import GoSem.ClaimJoined
import GoSem.ClaimMapViews
import Derived.JoinedTies
import Derived.KernelRfl
namespace Go.Proofs.YtcnembabenlheaaDoor
/- THE CELL 'sum', in the pinned program and in every row, IS THE sha256 OF THE DUMP (.gsa) THAT YtcnembabenlheaaDoorProg.lean LOADS. Nothing in Lean hashes anything: it is a label: what it is worth is what the hold of that sum in a sandbox is worth. -/
noncomputable def Tryd.pinned : Pinned := { name := "ytcnembabenlheaadoor", sum := "3ceb42207b2aa9b7731968cce07e1bc7cdce6ed9acf8cb52d2cc4b2fd4564e2e", checked := Tryd.checked }
namespace Rows
def none {H : Type} : Left H := { results := [], args := [] }

/- WHAT THE LISTED PACKAGE-LEVEL VARIABLES READ AS WHEN THE CALL BEGINS. Each datum BY PROGRAM (the guide's laid-datum.mjs) off the statement by which the dump's own 'gosem.cut.vars' lays the variable. In a bare row this is a premise. The card (YtcnembabenlheaaDoorCards.lean) ties it to the program's text. -/
def laid_unicode_utf8_acceptRanges {H : Type} : DataW H := .agg [.agg [.lit (.int .u8 128), .lit (.int .u8 191)], .agg [.lit (.int .u8 160), .lit (.int .u8 191)], .agg [.lit (.int .u8 128), .lit (.int .u8 159)], .agg [.lit (.int .u8 144), .lit (.int .u8 191)], .agg [.lit (.int .u8 128), .lit (.int .u8 143)], .agg [.lit (.int .u8 0), .lit (.int .u8 0)], .agg [.lit (.int .u8 0), .lit (.int .u8 0)], .agg [.lit (.int .u8 0), .lit (.int .u8 0)], .agg [.lit (.int .u8 0), .lit (.int .u8 0)], .agg [.lit (.int .u8 0), .lit (.int .u8 0)], .agg [.lit (.int .u8 0), .lit (.int .u8 0)], .agg [.lit (.int .u8 0), .lit (.int .u8 0)], .agg [.lit (.int .u8 0), .lit (.int .u8 0)], .agg [.lit (.int .u8 0), .lit (.int .u8 0)], .agg [.lit (.int .u8 0), .lit (.int .u8 0)], .agg [.lit (.int .u8 0), .lit (.int .u8 0)]]
/-- One of Go's own tables, pinned by name: the form's constant. -/
def laid_unicode_utf8_first : DataW Unit := Go.Pinned.utf8First

/-- 'n011_230.FnScanPragmaArgSpanInsideText': WHATEVER THE INPUT: true; the input reads as it did. -/
def fnScanPragmaArgSpanInsideTextSpec : ChangeSpec := { name := "fnScanPragmaArgSpanInsideText", fn := fun _ => fun
  | [d1, d2, d3, d4] => { results := [.lit (.bool true)], args := [d1, d2, d3, d4] }
  | _ => none }
def fnScanPragmaArgSpanInsideTextRow : OpenClaim := { program := "ytcnembabenlheaadoor", sum := "3ceb42207b2aa9b7731968cce07e1bc7cdce6ed9acf8cb52d2cc4b2fd4564e2e", func := "github.com/evanw/esbuild/n011_230.FnScanPragmaArgSpanInsideText", spec := "fnScanPragmaArgSpanInsideText", named := ["unicode/utf8.first", "unicode/utf8.acceptRanges"], apart := false, laid := [("unicode/utf8.acceptRanges", laid_unicode_utf8_acceptRanges), ("unicode/utf8.first", laid_unicode_utf8_first)] }
def FnScanPragmaArgSpanInsideTextSaid : Prop := fnScanPragmaArgSpanInsideTextRow.holds Tryd.pinned (OpenSpec.ofChange fnScanPragmaArgSpanInsideTextSpec)

/-- ITS FALSE NEIGHBOUR: 'it returns false'. Refute it at one input. -/
def fnScanPragmaArgSpanInsideTextWrong : ChangeSpec := { name := "fnScanPragmaArgSpanInsideText", fn := fun _ => fun
  | [d1, d2, d3, d4] => { results := [.lit (.bool false)], args := [d1, d2, d3, d4] }
  | _ => none }
def FnScanPragmaArgSpanInsideTextWrongFalsely : Prop := fnScanPragmaArgSpanInsideTextRow.holds Tryd.pinned (OpenSpec.ofChange fnScanPragmaArgSpanInsideTextWrong)

/-- 'n011_274.FnDecodeEscapesPlainTextNormalizesNewlines': WHATEVER THE INPUT: true; the input reads as it did. -/
def fnDecodeEscapesPlainTextNormalizesNewlinesSpec : ChangeSpec := { name := "fnDecodeEscapesPlainTextNormalizesNewlines", fn := fun _ => fun
  | [d1, d2, d3] => { results := [.lit (.bool true)], args := [d1, d2, d3] }
  | _ => none }
def fnDecodeEscapesPlainTextNormalizesNewlinesRow : OpenClaim := { program := "ytcnembabenlheaadoor", sum := "3ceb42207b2aa9b7731968cce07e1bc7cdce6ed9acf8cb52d2cc4b2fd4564e2e", func := "github.com/evanw/esbuild/n011_274.FnDecodeEscapesPlainTextNormalizesNewlines", spec := "fnDecodeEscapesPlainTextNormalizesNewlines", unfollowed := true, recurses := true, named := ["unicode/utf8.first", "unicode/utf8.acceptRanges"], apart := false, laid := [("unicode/utf8.acceptRanges", laid_unicode_utf8_acceptRanges), ("unicode/utf8.first", laid_unicode_utf8_first)] }
def FnDecodeEscapesPlainTextNormalizesNewlinesSaid : Prop := fnDecodeEscapesPlainTextNormalizesNewlinesRow.holds Tryd.pinned (OpenSpec.ofChange fnDecodeEscapesPlainTextNormalizesNewlinesSpec)

/-- ITS FALSE NEIGHBOUR: 'it returns false'. Refute it at one input. -/
def fnDecodeEscapesPlainTextNormalizesNewlinesWrong : ChangeSpec := { name := "fnDecodeEscapesPlainTextNormalizesNewlines", fn := fun _ => fun
  | [d1, d2, d3] => { results := [.lit (.bool false)], args := [d1, d2, d3] }
  | _ => none }
def FnDecodeEscapesPlainTextNormalizesNewlinesWrongFalsely : Prop := fnDecodeEscapesPlainTextNormalizesNewlinesRow.holds Tryd.pinned (OpenSpec.ofChange fnDecodeEscapesPlainTextNormalizesNewlinesWrong)

/-- 'n011_274.FnDecodeEscapesUnicodeEscapeRoundTrip': WHATEVER THE INPUT: true; the input reads as it did. -/
def fnDecodeEscapesUnicodeEscapeRoundTripSpec : ChangeSpec := { name := "fnDecodeEscapesUnicodeEscapeRoundTrip", fn := fun _ => fun
  | [d1, d2, d3] => { results := [.lit (.bool true)], args := [d1, d2, d3] }
  | _ => none }
def fnDecodeEscapesUnicodeEscapeRoundTripRow : OpenClaim := { program := "ytcnembabenlheaadoor", sum := "3ceb42207b2aa9b7731968cce07e1bc7cdce6ed9acf8cb52d2cc4b2fd4564e2e", func := "github.com/evanw/esbuild/n011_274.FnDecodeEscapesUnicodeEscapeRoundTrip", spec := "fnDecodeEscapesUnicodeEscapeRoundTrip", unfollowed := true, recurses := true, named := ["unicode/utf8.first", "unicode/utf8.acceptRanges"], apart := false, laid := [("unicode/utf8.acceptRanges", laid_unicode_utf8_acceptRanges), ("unicode/utf8.first", laid_unicode_utf8_first)] }
def FnDecodeEscapesUnicodeEscapeRoundTripSaid : Prop := fnDecodeEscapesUnicodeEscapeRoundTripRow.holds Tryd.pinned (OpenSpec.ofChange fnDecodeEscapesUnicodeEscapeRoundTripSpec)

/-- ITS FALSE NEIGHBOUR: 'it returns false'. Refute it at one input. -/
def fnDecodeEscapesUnicodeEscapeRoundTripWrong : ChangeSpec := { name := "fnDecodeEscapesUnicodeEscapeRoundTrip", fn := fun _ => fun
  | [d1, d2, d3] => { results := [.lit (.bool false)], args := [d1, d2, d3] }
  | _ => none }
def FnDecodeEscapesUnicodeEscapeRoundTripWrongFalsely : Prop := fnDecodeEscapesUnicodeEscapeRoundTripRow.holds Tryd.pinned (OpenSpec.ofChange fnDecodeEscapesUnicodeEscapeRoundTripWrong)

/-- 'n011_202.FnCookedIsNilOnBadEscapeRawKept': WHATEVER THE INPUT: true; the input reads as it did. -/
def fnCookedIsNilOnBadEscapeRawKeptSpec : ChangeSpec := { name := "fnCookedIsNilOnBadEscapeRawKept", fn := fun _ => fun
  | [d1, d2, d3, d4] => { results := [.lit (.bool true)], args := [d1, d2, d3, d4] }
  | _ => none }
def fnCookedIsNilOnBadEscapeRawKeptRow : OpenClaim := { program := "ytcnembabenlheaadoor", sum := "3ceb42207b2aa9b7731968cce07e1bc7cdce6ed9acf8cb52d2cc4b2fd4564e2e", func := "github.com/evanw/esbuild/n011_202.FnCookedIsNilOnBadEscapeRawKept", spec := "fnCookedIsNilOnBadEscapeRawKept", inPlace := ["internal/bytealg.IndexByteString"], unfollowed := true, recurses := true, named := ["unicode/utf8.first", "unicode/utf8.acceptRanges"], apart := false, laid := [("unicode/utf8.acceptRanges", laid_unicode_utf8_acceptRanges), ("unicode/utf8.first", laid_unicode_utf8_first)] }
def FnCookedIsNilOnBadEscapeRawKeptSaid : Prop := fnCookedIsNilOnBadEscapeRawKeptRow.holds Tryd.pinned (OpenSpec.ofChange fnCookedIsNilOnBadEscapeRawKeptSpec)

/-- ITS FALSE NEIGHBOUR: 'it returns false'. Refute it at one input. -/
def fnCookedIsNilOnBadEscapeRawKeptWrong : ChangeSpec := { name := "fnCookedIsNilOnBadEscapeRawKept", fn := fun _ => fun
  | [d1, d2, d3, d4] => { results := [.lit (.bool false)], args := [d1, d2, d3, d4] }
  | _ => none }
def FnCookedIsNilOnBadEscapeRawKeptWrongFalsely : Prop := fnCookedIsNilOnBadEscapeRawKeptRow.holds Tryd.pinned (OpenSpec.ofChange fnCookedIsNilOnBadEscapeRawKeptWrong)

/-- 'n011_281.FnDecodedTextOfEscapeFreeTokens': WHATEVER THE INPUT: true; the input reads as it did. -/
def fnDecodedTextOfEscapeFreeTokensSpec : ChangeSpec := { name := "fnDecodedTextOfEscapeFreeTokens", fn := fun _ => fun
  | [d1, d2, d3, d4] => { results := [.lit (.bool true)], args := [d1, d2, d3, d4] }
  | _ => none }
def fnDecodedTextOfEscapeFreeTokensRow : OpenClaim := { program := "ytcnembabenlheaadoor", sum := "3ceb42207b2aa9b7731968cce07e1bc7cdce6ed9acf8cb52d2cc4b2fd4564e2e", func := "github.com/evanw/esbuild/n011_281.FnDecodedTextOfEscapeFreeTokens", spec := "fnDecodedTextOfEscapeFreeTokens", inPlace := ["internal/abi.NoEscape"], named := ["unicode/utf8.first", "unicode/utf8.acceptRanges"], apart := false, laid := [("unicode/utf8.acceptRanges", laid_unicode_utf8_acceptRanges), ("unicode/utf8.first", laid_unicode_utf8_first)] }
def FnDecodedTextOfEscapeFreeTokensSaid : Prop := fnDecodedTextOfEscapeFreeTokensRow.holds Tryd.pinned (OpenSpec.ofChange fnDecodedTextOfEscapeFreeTokensSpec)

/-- ITS FALSE NEIGHBOUR: 'it returns false'. Refute it at one input. -/
def fnDecodedTextOfEscapeFreeTokensWrong : ChangeSpec := { name := "fnDecodedTextOfEscapeFreeTokens", fn := fun _ => fun
  | [d1, d2, d3, d4] => { results := [.lit (.bool false)], args := [d1, d2, d3, d4] }
  | _ => none }
def FnDecodedTextOfEscapeFreeTokensWrongFalsely : Prop := fnDecodedTextOfEscapeFreeTokensRow.holds Tryd.pinned (OpenSpec.ofChange fnDecodedTextOfEscapeFreeTokensWrong)

/- THE SECOND FORM. 'bulk': how many values and letters a reading holds, each counted each time it is reached (what is shared counts as often as it is met; a slice's spare places count too). A statement '..UptoSaid' is the law's where the arguments, and the package variables that the reading takes, are together of bulk at most 1048576: NARROWER than '..Said'. Prove '..Said' where nothing that the law and all that it calls make is longer than what came in: it says more and counts as full. Else prove '..UptoSaid'. A law counts once. -/
mutual
def uptoBulk {H : Type} : DataW H → Nat
  | .lit (.string bytes) => bytes.length + 1
  | .lit _ => 1
  | .nil => 1
  | .ptr d => uptoBulk d + 1
  | .slice elems spare => uptoBulkAll elems + uptoBulkAll spare + 1
  | .agg parts => uptoBulkAll parts + 1
  | .iface _ d => uptoBulk d + 1
  | .map entries => uptoBulkEntries entries + 1
  | .held _ => 1
def uptoBulkAll {H : Type} : List (DataW H) → Nat
  | [] => 0
  | d :: r => uptoBulk d + uptoBulkAll r
def uptoBulkEntries {H : Type} : List (Lit × DataW H) → Nat
  | [] => 0
  | x :: r => uptoBulkEntry x + uptoBulkEntries r
def uptoBulkEntry {H : Type} : Lit × DataW H → Nat
  | (.string bytes, d) => bytes.length + uptoBulk d + 1
  | (_, d) => uptoBulk d + 1
 end
def uptoSmall : (H : Type) → List (DataW H) → Bool := fun _ ds => decide (uptoBulkAll ds ≤ 1048576)
def OpenSpec.upto (s : _root_.Go.ChangeSpec) : _root_.Go.OpenSpec := { _root_.Go.OpenSpec.ofChange s with cond := some uptoSmall }

/-- 'n011_230.FnScanPragmaArgSpanInsideText', WHERE WHAT IT READS IS OF BULK AT MOST 1048576: true; the input reads as it did. -/
def fnScanPragmaArgSpanInsideTextUptoRow : OpenClaim := { program := "ytcnembabenlheaadoor", sum := "3ceb42207b2aa9b7731968cce07e1bc7cdce6ed9acf8cb52d2cc4b2fd4564e2e", func := "github.com/evanw/esbuild/n011_230.FnScanPragmaArgSpanInsideText", spec := "fnScanPragmaArgSpanInsideText", named := ["unicode/utf8.first", "unicode/utf8.acceptRanges"], apart := false, laid := [("unicode/utf8.acceptRanges", laid_unicode_utf8_acceptRanges), ("unicode/utf8.first", laid_unicode_utf8_first)], narrowed := true }
def FnScanPragmaArgSpanInsideTextUptoSaid : Prop := fnScanPragmaArgSpanInsideTextUptoRow.holds Tryd.pinned (OpenSpec.upto fnScanPragmaArgSpanInsideTextSpec)

/-- 'n011_274.FnDecodeEscapesPlainTextNormalizesNewlines', WHERE WHAT IT READS IS OF BULK AT MOST 1048576: true; the input reads as it did. -/
def fnDecodeEscapesPlainTextNormalizesNewlinesUptoRow : OpenClaim := { program := "ytcnembabenlheaadoor", sum := "3ceb42207b2aa9b7731968cce07e1bc7cdce6ed9acf8cb52d2cc4b2fd4564e2e", func := "github.com/evanw/esbuild/n011_274.FnDecodeEscapesPlainTextNormalizesNewlines", spec := "fnDecodeEscapesPlainTextNormalizesNewlines", unfollowed := true, recurses := true, named := ["unicode/utf8.first", "unicode/utf8.acceptRanges"], apart := false, laid := [("unicode/utf8.acceptRanges", laid_unicode_utf8_acceptRanges), ("unicode/utf8.first", laid_unicode_utf8_first)], narrowed := true }
def FnDecodeEscapesPlainTextNormalizesNewlinesUptoSaid : Prop := fnDecodeEscapesPlainTextNormalizesNewlinesUptoRow.holds Tryd.pinned (OpenSpec.upto fnDecodeEscapesPlainTextNormalizesNewlinesSpec)

/-- 'n011_274.FnDecodeEscapesUnicodeEscapeRoundTrip', WHERE WHAT IT READS IS OF BULK AT MOST 1048576: true; the input reads as it did. -/
def fnDecodeEscapesUnicodeEscapeRoundTripUptoRow : OpenClaim := { program := "ytcnembabenlheaadoor", sum := "3ceb42207b2aa9b7731968cce07e1bc7cdce6ed9acf8cb52d2cc4b2fd4564e2e", func := "github.com/evanw/esbuild/n011_274.FnDecodeEscapesUnicodeEscapeRoundTrip", spec := "fnDecodeEscapesUnicodeEscapeRoundTrip", unfollowed := true, recurses := true, named := ["unicode/utf8.first", "unicode/utf8.acceptRanges"], apart := false, laid := [("unicode/utf8.acceptRanges", laid_unicode_utf8_acceptRanges), ("unicode/utf8.first", laid_unicode_utf8_first)], narrowed := true }
def FnDecodeEscapesUnicodeEscapeRoundTripUptoSaid : Prop := fnDecodeEscapesUnicodeEscapeRoundTripUptoRow.holds Tryd.pinned (OpenSpec.upto fnDecodeEscapesUnicodeEscapeRoundTripSpec)

/-- 'n011_202.FnCookedIsNilOnBadEscapeRawKept', WHERE WHAT IT READS IS OF BULK AT MOST 1048576: true; the input reads as it did. -/
def fnCookedIsNilOnBadEscapeRawKeptUptoRow : OpenClaim := { program := "ytcnembabenlheaadoor", sum := "3ceb42207b2aa9b7731968cce07e1bc7cdce6ed9acf8cb52d2cc4b2fd4564e2e", func := "github.com/evanw/esbuild/n011_202.FnCookedIsNilOnBadEscapeRawKept", spec := "fnCookedIsNilOnBadEscapeRawKept", inPlace := ["internal/bytealg.IndexByteString"], unfollowed := true, recurses := true, named := ["unicode/utf8.first", "unicode/utf8.acceptRanges"], apart := false, laid := [("unicode/utf8.acceptRanges", laid_unicode_utf8_acceptRanges), ("unicode/utf8.first", laid_unicode_utf8_first)], narrowed := true }
def FnCookedIsNilOnBadEscapeRawKeptUptoSaid : Prop := fnCookedIsNilOnBadEscapeRawKeptUptoRow.holds Tryd.pinned (OpenSpec.upto fnCookedIsNilOnBadEscapeRawKeptSpec)

/-- 'n011_281.FnDecodedTextOfEscapeFreeTokens', WHERE WHAT IT READS IS OF BULK AT MOST 1048576: true; the input reads as it did. -/
def fnDecodedTextOfEscapeFreeTokensUptoRow : OpenClaim := { program := "ytcnembabenlheaadoor", sum := "3ceb42207b2aa9b7731968cce07e1bc7cdce6ed9acf8cb52d2cc4b2fd4564e2e", func := "github.com/evanw/esbuild/n011_281.FnDecodedTextOfEscapeFreeTokens", spec := "fnDecodedTextOfEscapeFreeTokens", inPlace := ["internal/abi.NoEscape"], named := ["unicode/utf8.first", "unicode/utf8.acceptRanges"], apart := false, laid := [("unicode/utf8.acceptRanges", laid_unicode_utf8_acceptRanges), ("unicode/utf8.first", laid_unicode_utf8_first)], narrowed := true }
def FnDecodedTextOfEscapeFreeTokensUptoSaid : Prop := fnDecodedTextOfEscapeFreeTokensUptoRow.holds Tryd.pinned (OpenSpec.upto fnDecodedTextOfEscapeFreeTokensSpec)

end Rows
end Go.Proofs.YtcnembabenlheaaDoor
