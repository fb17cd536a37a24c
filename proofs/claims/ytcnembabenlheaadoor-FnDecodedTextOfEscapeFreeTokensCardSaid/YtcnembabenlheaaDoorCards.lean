/-
  DERIVED. GIVEN WITH THE SEED: THE CARDS: each row of YtcnembabenlheaaDoorRows.lean that lists a variable, with what it lists TIED to the program's text (the seventh form; the later family's looks); each row that meets fmt, with fmt's text TOLD by the authors' own Lean function (tested against real Go, not proved from fmt's source: count such statements apart). THE CARD IS WHAT COUNTS. Prove the row's statement (the work); the ties are given (YtcnembabenlheaaDoorTie.lean); close each card by the builder's one call (the guide's Derived/Test/ToyasCard.lean, 'card_holds'). Laid BY PROGRAM, IN A SANDBOX (cutbox-door.mjs). By AI agents, Wed Nov 11 2026. No macro, syntax, notation, axiom, sorry.
-/
import Derived.Test.YtcnembabenlheaaDoorRows
import GoSem.ClaimSeven
namespace Go.Proofs.YtcnembabenlheaaDoor
namespace Rows

/-- THE TIED CARD OF 'n011_230.FnScanPragmaArgSpanInsideText'. -/
def fnScanPragmaArgSpanInsideTextCard : Claim7 := { stood := { row := fnScanPragmaArgSpanInsideTextRow, standIns := [], harness := (true, "20ffa04e6a0b99fafdad5c1b6ca2c008e0b2eaaf48661217843f29805a15ef37"), looks := false }, kinds := [], alts := [], laidByText := true, laidKinds := [.data, .pinned], laidTests := true, laidLooks := .later }
def FnScanPragmaArgSpanInsideTextCardSaid : Prop := Claim7.holds Tryd.pinned (.plain (OpenSpec.ofChange fnScanPragmaArgSpanInsideTextSpec)) fnScanPragmaArgSpanInsideTextCard

/-- THE TIED CARD OF 'n011_274.FnDecodeEscapesPlainTextNormalizesNewlines'. -/
def fnDecodeEscapesPlainTextNormalizesNewlinesCard : Claim7 := { stood := { row := fnDecodeEscapesPlainTextNormalizesNewlinesRow, standIns := [], harness := (true, "20ffa04e6a0b99fafdad5c1b6ca2c008e0b2eaaf48661217843f29805a15ef37"), looks := false }, kinds := [], alts := [], laidByText := true, laidKinds := [.data, .pinned], laidTests := true, laidLooks := .later }
def FnDecodeEscapesPlainTextNormalizesNewlinesCardSaid : Prop := Claim7.holds Tryd.pinned (.plain (OpenSpec.ofChange fnDecodeEscapesPlainTextNormalizesNewlinesSpec)) fnDecodeEscapesPlainTextNormalizesNewlinesCard

/-- THE TIED CARD OF 'n011_274.FnDecodeEscapesUnicodeEscapeRoundTrip'. -/
def fnDecodeEscapesUnicodeEscapeRoundTripCard : Claim7 := { stood := { row := fnDecodeEscapesUnicodeEscapeRoundTripRow, standIns := [], harness := (true, "20ffa04e6a0b99fafdad5c1b6ca2c008e0b2eaaf48661217843f29805a15ef37"), looks := false }, kinds := [], alts := [], laidByText := true, laidKinds := [.data, .pinned], laidTests := true, laidLooks := .later }
def FnDecodeEscapesUnicodeEscapeRoundTripCardSaid : Prop := Claim7.holds Tryd.pinned (.plain (OpenSpec.ofChange fnDecodeEscapesUnicodeEscapeRoundTripSpec)) fnDecodeEscapesUnicodeEscapeRoundTripCard

/-- THE TIED CARD OF 'n011_202.FnCookedIsNilOnBadEscapeRawKept'. -/
def fnCookedIsNilOnBadEscapeRawKeptCard : Claim7 := { stood := { row := fnCookedIsNilOnBadEscapeRawKeptRow, standIns := [], harness := (true, "20ffa04e6a0b99fafdad5c1b6ca2c008e0b2eaaf48661217843f29805a15ef37"), looks := false }, kinds := [], alts := [], laidByText := true, laidKinds := [.data, .pinned], laidTests := true, laidLooks := .later }
def FnCookedIsNilOnBadEscapeRawKeptCardSaid : Prop := Claim7.holds Tryd.pinned (.plain (OpenSpec.ofChange fnCookedIsNilOnBadEscapeRawKeptSpec)) fnCookedIsNilOnBadEscapeRawKeptCard

/-- THE TIED CARD OF 'n011_281.FnDecodedTextOfEscapeFreeTokens'. -/
def fnDecodedTextOfEscapeFreeTokensCard : Claim7 := { stood := { row := fnDecodedTextOfEscapeFreeTokensRow, standIns := [], harness := (true, "20ffa04e6a0b99fafdad5c1b6ca2c008e0b2eaaf48661217843f29805a15ef37"), looks := false }, kinds := [], alts := [], laidByText := true, laidKinds := [.data, .pinned], laidTests := true, laidLooks := .later }
def FnDecodedTextOfEscapeFreeTokensCardSaid : Prop := Claim7.holds Tryd.pinned (.plain (OpenSpec.ofChange fnDecodedTextOfEscapeFreeTokensSpec)) fnDecodedTextOfEscapeFreeTokensCard

/-- THE SECOND FORM's CARD OF 'n011_230.FnScanPragmaArgSpanInsideText'. -/
def fnScanPragmaArgSpanInsideTextUptoCard : Claim7 := { stood := { row := fnScanPragmaArgSpanInsideTextUptoRow, standIns := [], harness := (true, "20ffa04e6a0b99fafdad5c1b6ca2c008e0b2eaaf48661217843f29805a15ef37"), looks := false }, kinds := [], alts := [], laidByText := true, laidKinds := [.data, .pinned], laidTests := true, laidLooks := .later }
def FnScanPragmaArgSpanInsideTextUptoCardSaid : Prop := Claim7.holds Tryd.pinned (.plain (OpenSpec.upto fnScanPragmaArgSpanInsideTextSpec)) fnScanPragmaArgSpanInsideTextUptoCard

/-- THE SECOND FORM's CARD OF 'n011_274.FnDecodeEscapesPlainTextNormalizesNewlines'. -/
def fnDecodeEscapesPlainTextNormalizesNewlinesUptoCard : Claim7 := { stood := { row := fnDecodeEscapesPlainTextNormalizesNewlinesUptoRow, standIns := [], harness := (true, "20ffa04e6a0b99fafdad5c1b6ca2c008e0b2eaaf48661217843f29805a15ef37"), looks := false }, kinds := [], alts := [], laidByText := true, laidKinds := [.data, .pinned], laidTests := true, laidLooks := .later }
def FnDecodeEscapesPlainTextNormalizesNewlinesUptoCardSaid : Prop := Claim7.holds Tryd.pinned (.plain (OpenSpec.upto fnDecodeEscapesPlainTextNormalizesNewlinesSpec)) fnDecodeEscapesPlainTextNormalizesNewlinesUptoCard

/-- THE SECOND FORM's CARD OF 'n011_274.FnDecodeEscapesUnicodeEscapeRoundTrip'. -/
def fnDecodeEscapesUnicodeEscapeRoundTripUptoCard : Claim7 := { stood := { row := fnDecodeEscapesUnicodeEscapeRoundTripUptoRow, standIns := [], harness := (true, "20ffa04e6a0b99fafdad5c1b6ca2c008e0b2eaaf48661217843f29805a15ef37"), looks := false }, kinds := [], alts := [], laidByText := true, laidKinds := [.data, .pinned], laidTests := true, laidLooks := .later }
def FnDecodeEscapesUnicodeEscapeRoundTripUptoCardSaid : Prop := Claim7.holds Tryd.pinned (.plain (OpenSpec.upto fnDecodeEscapesUnicodeEscapeRoundTripSpec)) fnDecodeEscapesUnicodeEscapeRoundTripUptoCard

/-- THE SECOND FORM's CARD OF 'n011_202.FnCookedIsNilOnBadEscapeRawKept'. -/
def fnCookedIsNilOnBadEscapeRawKeptUptoCard : Claim7 := { stood := { row := fnCookedIsNilOnBadEscapeRawKeptUptoRow, standIns := [], harness := (true, "20ffa04e6a0b99fafdad5c1b6ca2c008e0b2eaaf48661217843f29805a15ef37"), looks := false }, kinds := [], alts := [], laidByText := true, laidKinds := [.data, .pinned], laidTests := true, laidLooks := .later }
def FnCookedIsNilOnBadEscapeRawKeptUptoCardSaid : Prop := Claim7.holds Tryd.pinned (.plain (OpenSpec.upto fnCookedIsNilOnBadEscapeRawKeptSpec)) fnCookedIsNilOnBadEscapeRawKeptUptoCard

/-- THE SECOND FORM's CARD OF 'n011_281.FnDecodedTextOfEscapeFreeTokens'. -/
def fnDecodedTextOfEscapeFreeTokensUptoCard : Claim7 := { stood := { row := fnDecodedTextOfEscapeFreeTokensUptoRow, standIns := [], harness := (true, "20ffa04e6a0b99fafdad5c1b6ca2c008e0b2eaaf48661217843f29805a15ef37"), looks := false }, kinds := [], alts := [], laidByText := true, laidKinds := [.data, .pinned], laidTests := true, laidLooks := .later }
def FnDecodedTextOfEscapeFreeTokensUptoCardSaid : Prop := Claim7.holds Tryd.pinned (.plain (OpenSpec.upto fnDecodedTextOfEscapeFreeTokensSpec)) fnDecodedTextOfEscapeFreeTokensUptoCard
end Rows
end Go.Proofs.YtcnembabenlheaaDoor
