/-
  DERIVED. GIVEN WITH THE SEED: THE CARDS: each row of YtemneajjdbbgoaaFmtRows.lean that lists a variable, with what it lists TIED to the program's text (the seventh form; the later family's looks); each row that meets fmt, with fmt's text TOLD by the authors' own Lean function (tested against real Go, not proved from fmt's source: count such statements apart). THE CARD IS WHAT COUNTS. Prove the row's statement (the work); the ties are given (YtemneajjdbbgoaaFmtTie.lean); close each card by the builder's one call (the guide's Derived/Test/ToyasCard.lean, 'card_holds'). Laid BY PROGRAM, IN A SANDBOX (cutbox-door.mjs). By AI agents, Wed Nov 11 2026. No macro, syntax, notation, axiom, sorry.
-/
import Derived.Test.YtemneajjdbbgoaaFmtRows
import GoSem.ClaimSeven
namespace Go.Proofs.YtemneajjdbbgoaaFmt
namespace Rows

/-- THE TOLD AND TIED CARD OF 'n011_202.FnStringLiteralDecodesEveryEscapeForm'. -/
def fnStringLiteralDecodesEveryEscapeFormCard : Claim7 := { stood := { row := fnStringLiteralDecodesEveryEscapeFormRow, standIns := [], harness := (true, "cf5044aca6bbf211bf6b7de2f4535313f1af802f01a84f6264bec8dbb7bee3e9"), looks := false }, told := true, laidByText := true, laidKinds := [.data, .pinned], laidTests := true, laidLooks := .later, goes := false }
def FnStringLiteralDecodesEveryEscapeFormToldSaid : Prop := Claim7.holds Tryf.pinned (.plain (OpenSpec.ofChange fnStringLiteralDecodesEveryEscapeFormSpec)) fnStringLiteralDecodesEveryEscapeFormCard
/-- ITS FALSE NEIGHBOUR. Refute it at one input. -/
def FnStringLiteralDecodesEveryEscapeFormToldWrongFalsely : Prop := Claim7.holds Tryf.pinned (.plain (OpenSpec.ofChange fnStringLiteralDecodesEveryEscapeFormWrong)) fnStringLiteralDecodesEveryEscapeFormCard
end Rows
end Go.Proofs.YtemneajjdbbgoaaFmt
