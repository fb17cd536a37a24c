/-
  DERIVED. GIVEN WITH THE SEED: THE CARDS: each row of YtocciemgdikmjaaDoorRows.lean that lists a variable, with what it lists TIED to the program's text (the seventh form; the later family's looks); each row that meets fmt, with fmt's text TOLD by the authors' own Lean function (tested against real Go, not proved from fmt's source: count such statements apart). THE CARD IS WHAT COUNTS. Prove the row's statement (the work); the ties are given (YtocciemgdikmjaaDoorTie.lean); close each card by the builder's one call (the guide's Derived/Test/ToyasCard.lean, 'card_holds'). Laid BY PROGRAM, IN A SANDBOX (cutbox-door.mjs). By AI agents, Wed Nov 11 2026. No macro, syntax, notation, axiom, sorry.
-/
import Derived.Test.YtocciemgdikmjaaDoorRows
import GoSem.ClaimSeven
namespace Go.Proofs.YtocciemgdikmjaaDoor
namespace Rows

/-- THE TIED CARD OF 'n011_281.FnTokenizeMatchesSmallGrammar'. -/
def fnTokenizeMatchesSmallGrammarCard : Claim7 := { stood := { row := fnTokenizeMatchesSmallGrammarRow, standIns := [], harness := (true, "f74ada36f19f14b7ec21d78ce924cef428009b51ab3426c0940864902ae40be3"), looks := false }, kinds := [], alts := [], laidByText := true, laidKinds := [.data, .pinned], laidTests := true, laidLooks := .later }
def FnTokenizeMatchesSmallGrammarCardSaid : Prop := Claim7.holds Tryd.pinned (.plain (OpenSpec.ofChange fnTokenizeMatchesSmallGrammarSpec)) fnTokenizeMatchesSmallGrammarCard

/-- THE TIED CARD OF 'n011_170.FnConsumeIdentLikeMatchesModel'. -/
def fnConsumeIdentLikeMatchesModelCard : Claim7 := { stood := { row := fnConsumeIdentLikeMatchesModelRow, standIns := [], harness := (true, "f74ada36f19f14b7ec21d78ce924cef428009b51ab3426c0940864902ae40be3"), looks := false }, kinds := [], alts := [], laidByText := true, laidKinds := [.data, .pinned], laidTests := true, laidLooks := .later }
def FnConsumeIdentLikeMatchesModelCardSaid : Prop := Claim7.holds Tryd.pinned (.plain (OpenSpec.ofChange fnConsumeIdentLikeMatchesModelSpec)) fnConsumeIdentLikeMatchesModelCard

/-- THE TIED CARD OF 'n011_281.FnIsNumericExactlyForTokensThatStartANumber'. -/
def fnIsNumericExactlyForTokensThatStartANumberCard : Claim7 := { stood := { row := fnIsNumericExactlyForTokensThatStartANumberRow, standIns := [], harness := (true, "f74ada36f19f14b7ec21d78ce924cef428009b51ab3426c0940864902ae40be3"), looks := false }, kinds := [], alts := [], laidByText := true, laidKinds := [.data, .pinned], laidTests := true, laidLooks := .later }
def FnIsNumericExactlyForTokensThatStartANumberCardSaid : Prop := Claim7.holds Tryd.pinned (.plain (OpenSpec.ofChange fnIsNumericExactlyForTokensThatStartANumberSpec)) fnIsNumericExactlyForTokensThatStartANumberCard

/-- THE TIED CARD OF 'n011_311.FnConsumeStringEndsWell'. -/
def fnConsumeStringEndsWellCard : Claim7 := { stood := { row := fnConsumeStringEndsWellRow, standIns := [], harness := (true, "f74ada36f19f14b7ec21d78ce924cef428009b51ab3426c0940864902ae40be3"), looks := false }, kinds := [], alts := [], laidByText := true, laidKinds := [.data, .pinned], laidTests := true, laidLooks := .later }
def FnConsumeStringEndsWellCardSaid : Prop := Claim7.holds Tryd.pinned (.plain (OpenSpec.ofChange fnConsumeStringEndsWellSpec)) fnConsumeStringEndsWellCard

/-- THE TIED CARD OF 'n011_111.FnNextMatchesTokenModelOnSmallAlphabet'. -/
def fnNextMatchesTokenModelOnSmallAlphabetCard : Claim7 := { stood := { row := fnNextMatchesTokenModelOnSmallAlphabetRow, standIns := [], harness := (true, "f74ada36f19f14b7ec21d78ce924cef428009b51ab3426c0940864902ae40be3"), looks := false }, kinds := [], alts := [], laidByText := true, laidKinds := [.data, .pinned], laidTests := true, laidLooks := .later }
def FnNextMatchesTokenModelOnSmallAlphabetCardSaid : Prop := Claim7.holds Tryd.pinned (.plain (OpenSpec.ofChange fnNextMatchesTokenModelOnSmallAlphabetSpec)) fnNextMatchesTokenModelOnSmallAlphabetCard

/-- THE TIED CARD OF 'n011_170.FnConsumeNameMatchesModel'. -/
def fnConsumeNameMatchesModelCard : Claim7 := { stood := { row := fnConsumeNameMatchesModelRow, standIns := [], harness := (true, "f74ada36f19f14b7ec21d78ce924cef428009b51ab3426c0940864902ae40be3"), looks := false }, kinds := [], alts := [], laidByText := true, laidKinds := [.data, .pinned], laidTests := true, laidLooks := .later }
def FnConsumeNameMatchesModelCardSaid : Prop := Claim7.holds Tryd.pinned (.plain (OpenSpec.ofChange fnConsumeNameMatchesModelSpec)) fnConsumeNameMatchesModelCard

/-- THE TIED CARD OF 'n011_111.FnNextTilesTheInputAndCountsEveryNewline'. -/
def fnNextTilesTheInputAndCountsEveryNewlineCard : Claim7 := { stood := { row := fnNextTilesTheInputAndCountsEveryNewlineRow, standIns := [], harness := (true, "f74ada36f19f14b7ec21d78ce924cef428009b51ab3426c0940864902ae40be3"), looks := false }, kinds := [], alts := [], laidByText := true, laidKinds := [.data, .pinned], laidTests := true, laidLooks := .later }
def FnNextTilesTheInputAndCountsEveryNewlineCardSaid : Prop := Claim7.holds Tryd.pinned (.plain (OpenSpec.ofChange fnNextTilesTheInputAndCountsEveryNewlineSpec)) fnNextTilesTheInputAndCountsEveryNewlineCard

/-- THE SECOND FORM's CARD OF 'n011_281.FnTokenizeMatchesSmallGrammar'. -/
def fnTokenizeMatchesSmallGrammarUptoCard : Claim7 := { stood := { row := fnTokenizeMatchesSmallGrammarUptoRow, standIns := [], harness := (true, "f74ada36f19f14b7ec21d78ce924cef428009b51ab3426c0940864902ae40be3"), looks := false }, kinds := [], alts := [], laidByText := true, laidKinds := [.data, .pinned], laidTests := true, laidLooks := .later }
def FnTokenizeMatchesSmallGrammarUptoCardSaid : Prop := Claim7.holds Tryd.pinned (.plain (OpenSpec.upto fnTokenizeMatchesSmallGrammarSpec)) fnTokenizeMatchesSmallGrammarUptoCard

/-- THE SECOND FORM's CARD OF 'n011_170.FnConsumeIdentLikeMatchesModel'. -/
def fnConsumeIdentLikeMatchesModelUptoCard : Claim7 := { stood := { row := fnConsumeIdentLikeMatchesModelUptoRow, standIns := [], harness := (true, "f74ada36f19f14b7ec21d78ce924cef428009b51ab3426c0940864902ae40be3"), looks := false }, kinds := [], alts := [], laidByText := true, laidKinds := [.data, .pinned], laidTests := true, laidLooks := .later }
def FnConsumeIdentLikeMatchesModelUptoCardSaid : Prop := Claim7.holds Tryd.pinned (.plain (OpenSpec.upto fnConsumeIdentLikeMatchesModelSpec)) fnConsumeIdentLikeMatchesModelUptoCard

/-- THE SECOND FORM's CARD OF 'n011_281.FnIsNumericExactlyForTokensThatStartANumber'. -/
def fnIsNumericExactlyForTokensThatStartANumberUptoCard : Claim7 := { stood := { row := fnIsNumericExactlyForTokensThatStartANumberUptoRow, standIns := [], harness := (true, "f74ada36f19f14b7ec21d78ce924cef428009b51ab3426c0940864902ae40be3"), looks := false }, kinds := [], alts := [], laidByText := true, laidKinds := [.data, .pinned], laidTests := true, laidLooks := .later }
def FnIsNumericExactlyForTokensThatStartANumberUptoCardSaid : Prop := Claim7.holds Tryd.pinned (.plain (OpenSpec.upto fnIsNumericExactlyForTokensThatStartANumberSpec)) fnIsNumericExactlyForTokensThatStartANumberUptoCard

/-- THE SECOND FORM's CARD OF 'n011_311.FnConsumeStringEndsWell'. -/
def fnConsumeStringEndsWellUptoCard : Claim7 := { stood := { row := fnConsumeStringEndsWellUptoRow, standIns := [], harness := (true, "f74ada36f19f14b7ec21d78ce924cef428009b51ab3426c0940864902ae40be3"), looks := false }, kinds := [], alts := [], laidByText := true, laidKinds := [.data, .pinned], laidTests := true, laidLooks := .later }
def FnConsumeStringEndsWellUptoCardSaid : Prop := Claim7.holds Tryd.pinned (.plain (OpenSpec.upto fnConsumeStringEndsWellSpec)) fnConsumeStringEndsWellUptoCard

/-- THE SECOND FORM's CARD OF 'n011_111.FnNextMatchesTokenModelOnSmallAlphabet'. -/
def fnNextMatchesTokenModelOnSmallAlphabetUptoCard : Claim7 := { stood := { row := fnNextMatchesTokenModelOnSmallAlphabetUptoRow, standIns := [], harness := (true, "f74ada36f19f14b7ec21d78ce924cef428009b51ab3426c0940864902ae40be3"), looks := false }, kinds := [], alts := [], laidByText := true, laidKinds := [.data, .pinned], laidTests := true, laidLooks := .later }
def FnNextMatchesTokenModelOnSmallAlphabetUptoCardSaid : Prop := Claim7.holds Tryd.pinned (.plain (OpenSpec.upto fnNextMatchesTokenModelOnSmallAlphabetSpec)) fnNextMatchesTokenModelOnSmallAlphabetUptoCard

/-- THE SECOND FORM's CARD OF 'n011_170.FnConsumeNameMatchesModel'. -/
def fnConsumeNameMatchesModelUptoCard : Claim7 := { stood := { row := fnConsumeNameMatchesModelUptoRow, standIns := [], harness := (true, "f74ada36f19f14b7ec21d78ce924cef428009b51ab3426c0940864902ae40be3"), looks := false }, kinds := [], alts := [], laidByText := true, laidKinds := [.data, .pinned], laidTests := true, laidLooks := .later }
def FnConsumeNameMatchesModelUptoCardSaid : Prop := Claim7.holds Tryd.pinned (.plain (OpenSpec.upto fnConsumeNameMatchesModelSpec)) fnConsumeNameMatchesModelUptoCard

/-- THE SECOND FORM's CARD OF 'n011_111.FnNextTilesTheInputAndCountsEveryNewline'. -/
def fnNextTilesTheInputAndCountsEveryNewlineUptoCard : Claim7 := { stood := { row := fnNextTilesTheInputAndCountsEveryNewlineUptoRow, standIns := [], harness := (true, "f74ada36f19f14b7ec21d78ce924cef428009b51ab3426c0940864902ae40be3"), looks := false }, kinds := [], alts := [], laidByText := true, laidKinds := [.data, .pinned], laidTests := true, laidLooks := .later }
def FnNextTilesTheInputAndCountsEveryNewlineUptoCardSaid : Prop := Claim7.holds Tryd.pinned (.plain (OpenSpec.upto fnNextTilesTheInputAndCountsEveryNewlineSpec)) fnNextTilesTheInputAndCountsEveryNewlineUptoCard
end Rows
end Go.Proofs.YtocciemgdikmjaaDoor
