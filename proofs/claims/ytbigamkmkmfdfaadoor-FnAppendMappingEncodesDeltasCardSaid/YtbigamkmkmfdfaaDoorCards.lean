/-
  DERIVED. GIVEN WITH THE SEED: THE CARDS: each row of YtbigamkmkmfdfaaDoorRows.lean that lists a variable, with what it lists TIED to the program's text (the seventh form; the later family's looks); each row that meets fmt, with fmt's text TOLD by the authors' own Lean function (tested against real Go, not proved from fmt's source: count such statements apart). THE CARD IS WHAT COUNTS. Prove the row's statement (the work); the ties are given (YtbigamkmkmfdfaaDoorTie.lean); close each card by the builder's one call (the guide's Derived/Test/ToyasCard.lean, 'card_holds'). Laid BY PROGRAM, IN A SANDBOX (cutbox-door.mjs). By AI agents, Wed Nov 11 2026. No macro, syntax, notation, axiom, sorry.
-/
import Derived.Test.YtbigamkmkmfdfaaDoorRows
import GoSem.ClaimSeven
namespace Go.Proofs.YtbigamkmkmfdfaaDoor
namespace Rows

/-- THE TIED CARD OF 'n011_108.FnHasContentAgreesWithFinalize'. -/
def fnHasContentAgreesWithFinalizeCard : Claim7 := { stood := { row := fnHasContentAgreesWithFinalizeRow, standIns := [], harness := (true, "7756aaab05ce9e42ec5bf18099caa74fbfef6f3200f4cb81298c6203bf697067"), looks := false }, kinds := [], alts := [], laidByText := true, laidKinds := [.widerDeep], laidTests := true, laidLooks := .later }
def FnHasContentAgreesWithFinalizeCardSaid : Prop := Claim7.holds Tryd.pinned (.plain (OpenSpec.ofChange fnHasContentAgreesWithFinalizeSpec)) fnHasContentAgreesWithFinalizeCard

/-- THE TIED CARD OF 'n011_194.FnDecodeVLQInvertsEncodeVLQ'. -/
def fnDecodeVLQInvertsEncodeVLQCard : Claim7 := { stood := { row := fnDecodeVLQInvertsEncodeVLQRow, standIns := [], harness := (true, "7756aaab05ce9e42ec5bf18099caa74fbfef6f3200f4cb81298c6203bf697067"), looks := false }, kinds := [], alts := [], laidByText := true, laidKinds := [.widerDeep], laidTests := true, laidLooks := .later }
def FnDecodeVLQInvertsEncodeVLQCardSaid : Prop := Claim7.holds Tryd.pinned (.plain (OpenSpec.ofChange fnDecodeVLQInvertsEncodeVLQSpec)) fnDecodeVLQInvertsEncodeVLQCard

/-- THE TIED CARD OF 'n011_108.FnAppendMappingDependsOnlyOnDeltas'. -/
def fnAppendMappingDependsOnlyOnDeltasCard : Claim7 := { stood := { row := fnAppendMappingDependsOnlyOnDeltasRow, standIns := [], harness := (true, "7756aaab05ce9e42ec5bf18099caa74fbfef6f3200f4cb81298c6203bf697067"), looks := false }, kinds := [], alts := [], laidByText := true, laidKinds := [.widerDeep], laidTests := true, laidLooks := .later }
def FnAppendMappingDependsOnlyOnDeltasCardSaid : Prop := Claim7.holds Tryd.pinned (.plain (OpenSpec.ofChange fnAppendMappingDependsOnlyOnDeltasSpec)) fnAppendMappingDependsOnlyOnDeltasCard

/-- THE TIED CARD OF 'n011_194.FnDecodeVLQMatchesHornerModel'. -/
def fnDecodeVLQMatchesHornerModelCard : Claim7 := { stood := { row := fnDecodeVLQMatchesHornerModelRow, standIns := [], harness := (true, "7756aaab05ce9e42ec5bf18099caa74fbfef6f3200f4cb81298c6203bf697067"), looks := false }, kinds := [], alts := [], laidByText := true, laidKinds := [.widerDeep], laidTests := true, laidLooks := .later }
def FnDecodeVLQMatchesHornerModelCardSaid : Prop := Claim7.holds Tryd.pinned (.plain (OpenSpec.ofChange fnDecodeVLQMatchesHornerModelSpec)) fnDecodeVLQMatchesHornerModelCard

/-- THE TIED CARD OF 'n011_108.FnFinalizeOneShiftConcatenates'. -/
def fnFinalizeOneShiftConcatenatesCard : Claim7 := { stood := { row := fnFinalizeOneShiftConcatenatesRow, standIns := [], harness := (true, "7756aaab05ce9e42ec5bf18099caa74fbfef6f3200f4cb81298c6203bf697067"), looks := false }, kinds := [], alts := [], laidByText := true, laidKinds := [.widerDeep], laidTests := true, laidLooks := .later }
def FnFinalizeOneShiftConcatenatesCardSaid : Prop := Claim7.holds Tryd.pinned (.plain (OpenSpec.ofChange fnFinalizeOneShiftConcatenatesSpec)) fnFinalizeOneShiftConcatenatesCard

/-- THE TIED CARD OF 'n011_108.FnAppendMappingEncodesDeltas'. -/
def fnAppendMappingEncodesDeltasCard : Claim7 := { stood := { row := fnAppendMappingEncodesDeltasRow, standIns := [], harness := (true, "7756aaab05ce9e42ec5bf18099caa74fbfef6f3200f4cb81298c6203bf697067"), looks := false }, kinds := [], alts := [], laidByText := true, laidKinds := [.widerDeep], laidTests := true, laidLooks := .later }
def FnAppendMappingEncodesDeltasCardSaid : Prop := Claim7.holds Tryd.pinned (.plain (OpenSpec.ofChange fnAppendMappingEncodesDeltasSpec)) fnAppendMappingEncodesDeltasCard

/-- THE SECOND FORM's CARD OF 'n011_108.FnHasContentAgreesWithFinalize'. -/
def fnHasContentAgreesWithFinalizeUptoCard : Claim7 := { stood := { row := fnHasContentAgreesWithFinalizeUptoRow, standIns := [], harness := (true, "7756aaab05ce9e42ec5bf18099caa74fbfef6f3200f4cb81298c6203bf697067"), looks := false }, kinds := [], alts := [], laidByText := true, laidKinds := [.widerDeep], laidTests := true, laidLooks := .later }
def FnHasContentAgreesWithFinalizeUptoCardSaid : Prop := Claim7.holds Tryd.pinned (.plain (OpenSpec.upto fnHasContentAgreesWithFinalizeSpec)) fnHasContentAgreesWithFinalizeUptoCard

/-- THE SECOND FORM's CARD OF 'n011_194.FnDecodeVLQInvertsEncodeVLQ'. -/
def fnDecodeVLQInvertsEncodeVLQUptoCard : Claim7 := { stood := { row := fnDecodeVLQInvertsEncodeVLQUptoRow, standIns := [], harness := (true, "7756aaab05ce9e42ec5bf18099caa74fbfef6f3200f4cb81298c6203bf697067"), looks := false }, kinds := [], alts := [], laidByText := true, laidKinds := [.widerDeep], laidTests := true, laidLooks := .later }
def FnDecodeVLQInvertsEncodeVLQUptoCardSaid : Prop := Claim7.holds Tryd.pinned (.plain (OpenSpec.upto fnDecodeVLQInvertsEncodeVLQSpec)) fnDecodeVLQInvertsEncodeVLQUptoCard

/-- THE SECOND FORM's CARD OF 'n011_108.FnAppendMappingDependsOnlyOnDeltas'. -/
def fnAppendMappingDependsOnlyOnDeltasUptoCard : Claim7 := { stood := { row := fnAppendMappingDependsOnlyOnDeltasUptoRow, standIns := [], harness := (true, "7756aaab05ce9e42ec5bf18099caa74fbfef6f3200f4cb81298c6203bf697067"), looks := false }, kinds := [], alts := [], laidByText := true, laidKinds := [.widerDeep], laidTests := true, laidLooks := .later }
def FnAppendMappingDependsOnlyOnDeltasUptoCardSaid : Prop := Claim7.holds Tryd.pinned (.plain (OpenSpec.upto fnAppendMappingDependsOnlyOnDeltasSpec)) fnAppendMappingDependsOnlyOnDeltasUptoCard

/-- THE SECOND FORM's CARD OF 'n011_194.FnDecodeVLQMatchesHornerModel'. -/
def fnDecodeVLQMatchesHornerModelUptoCard : Claim7 := { stood := { row := fnDecodeVLQMatchesHornerModelUptoRow, standIns := [], harness := (true, "7756aaab05ce9e42ec5bf18099caa74fbfef6f3200f4cb81298c6203bf697067"), looks := false }, kinds := [], alts := [], laidByText := true, laidKinds := [.widerDeep], laidTests := true, laidLooks := .later }
def FnDecodeVLQMatchesHornerModelUptoCardSaid : Prop := Claim7.holds Tryd.pinned (.plain (OpenSpec.upto fnDecodeVLQMatchesHornerModelSpec)) fnDecodeVLQMatchesHornerModelUptoCard

/-- THE SECOND FORM's CARD OF 'n011_108.FnFinalizeOneShiftConcatenates'. -/
def fnFinalizeOneShiftConcatenatesUptoCard : Claim7 := { stood := { row := fnFinalizeOneShiftConcatenatesUptoRow, standIns := [], harness := (true, "7756aaab05ce9e42ec5bf18099caa74fbfef6f3200f4cb81298c6203bf697067"), looks := false }, kinds := [], alts := [], laidByText := true, laidKinds := [.widerDeep], laidTests := true, laidLooks := .later }
def FnFinalizeOneShiftConcatenatesUptoCardSaid : Prop := Claim7.holds Tryd.pinned (.plain (OpenSpec.upto fnFinalizeOneShiftConcatenatesSpec)) fnFinalizeOneShiftConcatenatesUptoCard

/-- THE SECOND FORM's CARD OF 'n011_108.FnAppendMappingEncodesDeltas'. -/
def fnAppendMappingEncodesDeltasUptoCard : Claim7 := { stood := { row := fnAppendMappingEncodesDeltasUptoRow, standIns := [], harness := (true, "7756aaab05ce9e42ec5bf18099caa74fbfef6f3200f4cb81298c6203bf697067"), looks := false }, kinds := [], alts := [], laidByText := true, laidKinds := [.widerDeep], laidTests := true, laidLooks := .later }
def FnAppendMappingEncodesDeltasUptoCardSaid : Prop := Claim7.holds Tryd.pinned (.plain (OpenSpec.upto fnAppendMappingEncodesDeltasSpec)) fnAppendMappingEncodesDeltasUptoCard
end Rows
end Go.Proofs.YtbigamkmkmfdfaaDoor
