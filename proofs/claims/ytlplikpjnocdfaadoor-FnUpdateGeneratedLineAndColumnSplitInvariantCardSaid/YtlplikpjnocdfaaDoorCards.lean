/-
  DERIVED. GIVEN WITH THE SEED: THE CARDS: each row of YtlplikpjnocdfaaDoorRows.lean that lists a variable, with what it lists TIED to the program's text (the seventh form; the later family's looks); each row that meets fmt, with fmt's text TOLD by the authors' own Lean function (tested against real Go, not proved from fmt's source: count such statements apart). THE CARD IS WHAT COUNTS. Prove the row's statement (the work); the ties are given (YtlplikpjnocdfaaDoorTie.lean); close each card by the builder's one call (the guide's Derived/Test/ToyasCard.lean, 'card_holds'). Laid BY PROGRAM, IN A SANDBOX (cutbox-door.mjs). By AI agents, Wed Nov 11 2026. No macro, syntax, notation, axiom, sorry.
-/
import Derived.Test.YtlplikpjnocdfaaDoorRows
import GoSem.ClaimSeven
namespace Go.Proofs.YtlplikpjnocdfaaDoor
namespace Rows

/-- THE TIED CARD OF 'n011_123.FnAppendMappingWithoutRemappingDecodesToDeltas'. -/
def fnAppendMappingWithoutRemappingDecodesToDeltasCard : Claim7 := { stood := { row := fnAppendMappingWithoutRemappingDecodesToDeltasRow, standIns := [], harness := (true, "b84807bf678896d32dcaaae422ea11da275d52c12492ed81902f275d39e78af0"), looks := false }, kinds := [], alts := [], laidByText := true, laidKinds := [.widerDeep], laidTests := true, laidLooks := .later }
def FnAppendMappingWithoutRemappingDecodesToDeltasCardSaid : Prop := Claim7.holds Tryd.pinned (.plain (OpenSpec.ofChange fnAppendMappingWithoutRemappingDecodesToDeltasSpec)) fnAppendMappingWithoutRemappingDecodesToDeltasCard

/-- THE TIED CARD OF 'n011_123.FnUpdateGeneratedLineAndColumnSplitInvariant'. -/
def fnUpdateGeneratedLineAndColumnSplitInvariantCard : Claim7 := { stood := { row := fnUpdateGeneratedLineAndColumnSplitInvariantRow, standIns := [], harness := (true, "b84807bf678896d32dcaaae422ea11da275d52c12492ed81902f275d39e78af0"), looks := false }, kinds := [], alts := [], laidByText := true, laidKinds := [.widerDeep], laidTests := true, laidLooks := .later }
def FnUpdateGeneratedLineAndColumnSplitInvariantCardSaid : Prop := Claim7.holds Tryd.pinned (.plain (OpenSpec.ofChange fnUpdateGeneratedLineAndColumnSplitInvariantSpec)) fnUpdateGeneratedLineAndColumnSplitInvariantCard

/-- THE SECOND FORM's CARD OF 'n011_123.FnAppendMappingWithoutRemappingDecodesToDeltas'. -/
def fnAppendMappingWithoutRemappingDecodesToDeltasUptoCard : Claim7 := { stood := { row := fnAppendMappingWithoutRemappingDecodesToDeltasUptoRow, standIns := [], harness := (true, "b84807bf678896d32dcaaae422ea11da275d52c12492ed81902f275d39e78af0"), looks := false }, kinds := [], alts := [], laidByText := true, laidKinds := [.widerDeep], laidTests := true, laidLooks := .later }
def FnAppendMappingWithoutRemappingDecodesToDeltasUptoCardSaid : Prop := Claim7.holds Tryd.pinned (.plain (OpenSpec.upto fnAppendMappingWithoutRemappingDecodesToDeltasSpec)) fnAppendMappingWithoutRemappingDecodesToDeltasUptoCard

/-- THE SECOND FORM's CARD OF 'n011_123.FnUpdateGeneratedLineAndColumnSplitInvariant'. -/
def fnUpdateGeneratedLineAndColumnSplitInvariantUptoCard : Claim7 := { stood := { row := fnUpdateGeneratedLineAndColumnSplitInvariantUptoRow, standIns := [], harness := (true, "b84807bf678896d32dcaaae422ea11da275d52c12492ed81902f275d39e78af0"), looks := false }, kinds := [], alts := [], laidByText := true, laidKinds := [.widerDeep], laidTests := true, laidLooks := .later }
def FnUpdateGeneratedLineAndColumnSplitInvariantUptoCardSaid : Prop := Claim7.holds Tryd.pinned (.plain (OpenSpec.upto fnUpdateGeneratedLineAndColumnSplitInvariantSpec)) fnUpdateGeneratedLineAndColumnSplitInvariantUptoCard
end Rows
end Go.Proofs.YtlplikpjnocdfaaDoor
