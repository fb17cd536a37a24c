/-
  DERIVED. GIVEN WITH THE SEED: THE CARDS: each row of YtkhcbbpkppkgjaaDoorRows.lean that lists a variable, with what it lists TIED to the program's text (the seventh form; the later family's looks); each row that meets fmt, with fmt's text TOLD by the authors' own Lean function (tested against real Go, not proved from fmt's source: count such statements apart). THE CARD IS WHAT COUNTS. Prove the row's statement (the work); the ties are given (YtkhcbbpkppkgjaaDoorTie.lean); close each card by the builder's one call (the guide's Derived/Test/ToyasCard.lean, 'card_holds'). Laid BY PROGRAM, IN A SANDBOX (cutbox-door.mjs). By AI agents, Wed Nov 11 2026. No macro, syntax, notation, axiom, sorry.
-/
import Derived.Test.YtkhcbbpkppkgjaaDoorRows
import GoSem.ClaimSeven
namespace Go.Proofs.YtkhcbbpkppkgjaaDoor
namespace Rows

/-- THE TIED CARD OF 'n011_187.FnWouldStartIdentifierCaseTable'. -/
def fnWouldStartIdentifierCaseTableCard : Claim7 := { stood := { row := fnWouldStartIdentifierCaseTableRow, standIns := [], harness := (true, "90bf8f01c8e2169c95d67283a5271a589396a30980311d1d590d5a54178bde44"), looks := false }, kinds := [], alts := [], laidByText := true, laidKinds := [.data, .pinned], laidTests := true, laidLooks := .later }
def FnWouldStartIdentifierCaseTableCardSaid : Prop := Claim7.holds Tryd.pinned (.plain (OpenSpec.ofChange fnWouldStartIdentifierCaseTableSpec)) fnWouldStartIdentifierCaseTableCard

/-- THE TIED CARD OF 'n011_187.FnIsValidEscapeCaseTable'. -/
def fnIsValidEscapeCaseTableCard : Claim7 := { stood := { row := fnIsValidEscapeCaseTableRow, standIns := [], harness := (true, "90bf8f01c8e2169c95d67283a5271a589396a30980311d1d590d5a54178bde44"), looks := false }, kinds := [], alts := [], laidByText := true, laidKinds := [.data, .pinned], laidTests := true, laidLooks := .later }
def FnIsValidEscapeCaseTableCardSaid : Prop := Claim7.holds Tryd.pinned (.plain (OpenSpec.ofChange fnIsValidEscapeCaseTableSpec)) fnIsValidEscapeCaseTableCard

/-- THE TIED CARD OF 'n011_187.FnWouldStartIdentifierWithoutEscapesExtension'. -/
def fnWouldStartIdentifierWithoutEscapesExtensionCard : Claim7 := { stood := { row := fnWouldStartIdentifierWithoutEscapesExtensionRow, standIns := [], harness := (true, "90bf8f01c8e2169c95d67283a5271a589396a30980311d1d590d5a54178bde44"), looks := false }, kinds := [], alts := [], laidByText := true, laidKinds := [.data, .pinned], laidTests := true, laidLooks := .later }
def FnWouldStartIdentifierWithoutEscapesExtensionCardSaid : Prop := Claim7.holds Tryd.pinned (.plain (OpenSpec.ofChange fnWouldStartIdentifierWithoutEscapesExtensionSpec)) fnWouldStartIdentifierWithoutEscapesExtensionCard

/-- THE TIED CARD OF 'n011_187.FnRangeOfIdentifierEscapeFreeIsNameRun'. -/
def fnRangeOfIdentifierEscapeFreeIsNameRunCard : Claim7 := { stood := { row := fnRangeOfIdentifierEscapeFreeIsNameRunRow, standIns := [], harness := (true, "90bf8f01c8e2169c95d67283a5271a589396a30980311d1d590d5a54178bde44"), looks := false }, kinds := [], alts := [], laidByText := true, laidKinds := [.data, .pinned], laidTests := true, laidLooks := .later }
def FnRangeOfIdentifierEscapeFreeIsNameRunCardSaid : Prop := Claim7.holds Tryd.pinned (.plain (OpenSpec.ofChange fnRangeOfIdentifierEscapeFreeIsNameRunSpec)) fnRangeOfIdentifierEscapeFreeIsNameRunCard

/-- THE TIED CARD OF 'n011_281.FnStringDistinguishesKindsButIdentifierAlias'. -/
def fnStringDistinguishesKindsButIdentifierAliasCard : Claim7 := { stood := { row := fnStringDistinguishesKindsButIdentifierAliasRow, standIns := [], harness := (true, "90bf8f01c8e2169c95d67283a5271a589396a30980311d1d590d5a54178bde44"), looks := false }, kinds := [], alts := [], laidByText := true, laidKinds := [.data], laidTests := true, laidLooks := .later }
def FnStringDistinguishesKindsButIdentifierAliasCardSaid : Prop := Claim7.holds Tryd.pinned (.plain (OpenSpec.ofChange fnStringDistinguishesKindsButIdentifierAliasSpec)) fnStringDistinguishesKindsButIdentifierAliasCard

/-- THE TIED CARD OF 'n011_170.FnWouldStartNumberIsPureAndLocal'. -/
def fnWouldStartNumberIsPureAndLocalCard : Claim7 := { stood := { row := fnWouldStartNumberIsPureAndLocalRow, standIns := [], harness := (true, "90bf8f01c8e2169c95d67283a5271a589396a30980311d1d590d5a54178bde44"), looks := false }, kinds := [], alts := [], laidByText := true, laidKinds := [.data, .pinned], laidTests := true, laidLooks := .later }
def FnWouldStartNumberIsPureAndLocalCardSaid : Prop := Claim7.holds Tryd.pinned (.plain (OpenSpec.ofChange fnWouldStartNumberIsPureAndLocalSpec)) fnWouldStartNumberIsPureAndLocalCard

/-- THE SECOND FORM's CARD OF 'n011_187.FnWouldStartIdentifierCaseTable'. -/
def fnWouldStartIdentifierCaseTableUptoCard : Claim7 := { stood := { row := fnWouldStartIdentifierCaseTableUptoRow, standIns := [], harness := (true, "90bf8f01c8e2169c95d67283a5271a589396a30980311d1d590d5a54178bde44"), looks := false }, kinds := [], alts := [], laidByText := true, laidKinds := [.data, .pinned], laidTests := true, laidLooks := .later }
def FnWouldStartIdentifierCaseTableUptoCardSaid : Prop := Claim7.holds Tryd.pinned (.plain (OpenSpec.upto fnWouldStartIdentifierCaseTableSpec)) fnWouldStartIdentifierCaseTableUptoCard

/-- THE SECOND FORM's CARD OF 'n011_187.FnIsValidEscapeCaseTable'. -/
def fnIsValidEscapeCaseTableUptoCard : Claim7 := { stood := { row := fnIsValidEscapeCaseTableUptoRow, standIns := [], harness := (true, "90bf8f01c8e2169c95d67283a5271a589396a30980311d1d590d5a54178bde44"), looks := false }, kinds := [], alts := [], laidByText := true, laidKinds := [.data, .pinned], laidTests := true, laidLooks := .later }
def FnIsValidEscapeCaseTableUptoCardSaid : Prop := Claim7.holds Tryd.pinned (.plain (OpenSpec.upto fnIsValidEscapeCaseTableSpec)) fnIsValidEscapeCaseTableUptoCard

/-- THE SECOND FORM's CARD OF 'n011_187.FnWouldStartIdentifierWithoutEscapesExtension'. -/
def fnWouldStartIdentifierWithoutEscapesExtensionUptoCard : Claim7 := { stood := { row := fnWouldStartIdentifierWithoutEscapesExtensionUptoRow, standIns := [], harness := (true, "90bf8f01c8e2169c95d67283a5271a589396a30980311d1d590d5a54178bde44"), looks := false }, kinds := [], alts := [], laidByText := true, laidKinds := [.data, .pinned], laidTests := true, laidLooks := .later }
def FnWouldStartIdentifierWithoutEscapesExtensionUptoCardSaid : Prop := Claim7.holds Tryd.pinned (.plain (OpenSpec.upto fnWouldStartIdentifierWithoutEscapesExtensionSpec)) fnWouldStartIdentifierWithoutEscapesExtensionUptoCard

/-- THE SECOND FORM's CARD OF 'n011_187.FnRangeOfIdentifierEscapeFreeIsNameRun'. -/
def fnRangeOfIdentifierEscapeFreeIsNameRunUptoCard : Claim7 := { stood := { row := fnRangeOfIdentifierEscapeFreeIsNameRunUptoRow, standIns := [], harness := (true, "90bf8f01c8e2169c95d67283a5271a589396a30980311d1d590d5a54178bde44"), looks := false }, kinds := [], alts := [], laidByText := true, laidKinds := [.data, .pinned], laidTests := true, laidLooks := .later }
def FnRangeOfIdentifierEscapeFreeIsNameRunUptoCardSaid : Prop := Claim7.holds Tryd.pinned (.plain (OpenSpec.upto fnRangeOfIdentifierEscapeFreeIsNameRunSpec)) fnRangeOfIdentifierEscapeFreeIsNameRunUptoCard

/-- THE SECOND FORM's CARD OF 'n011_281.FnStringDistinguishesKindsButIdentifierAlias'. -/
def fnStringDistinguishesKindsButIdentifierAliasUptoCard : Claim7 := { stood := { row := fnStringDistinguishesKindsButIdentifierAliasUptoRow, standIns := [], harness := (true, "90bf8f01c8e2169c95d67283a5271a589396a30980311d1d590d5a54178bde44"), looks := false }, kinds := [], alts := [], laidByText := true, laidKinds := [.data], laidTests := true, laidLooks := .later }
def FnStringDistinguishesKindsButIdentifierAliasUptoCardSaid : Prop := Claim7.holds Tryd.pinned (.plain (OpenSpec.upto fnStringDistinguishesKindsButIdentifierAliasSpec)) fnStringDistinguishesKindsButIdentifierAliasUptoCard

/-- THE SECOND FORM's CARD OF 'n011_170.FnWouldStartNumberIsPureAndLocal'. -/
def fnWouldStartNumberIsPureAndLocalUptoCard : Claim7 := { stood := { row := fnWouldStartNumberIsPureAndLocalUptoRow, standIns := [], harness := (true, "90bf8f01c8e2169c95d67283a5271a589396a30980311d1d590d5a54178bde44"), looks := false }, kinds := [], alts := [], laidByText := true, laidKinds := [.data, .pinned], laidTests := true, laidLooks := .later }
def FnWouldStartNumberIsPureAndLocalUptoCardSaid : Prop := Claim7.holds Tryd.pinned (.plain (OpenSpec.upto fnWouldStartNumberIsPureAndLocalSpec)) fnWouldStartNumberIsPureAndLocalUptoCard
end Rows
end Go.Proofs.YtkhcbbpkppkgjaaDoor
