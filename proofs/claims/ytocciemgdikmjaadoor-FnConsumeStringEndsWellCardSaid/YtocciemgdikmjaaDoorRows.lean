/-
  NARROWER THAN 'FOR EVERY INPUT', by the rows' own cells (each row's printed sentence says how): FnTokenizeMatchesSmallGrammar: laid · FnConsumeIdentLikeMatchesModel: laid · FnIsNumericExactlyForTokensThatStartANumber: laid · FnConsumeStringEndsWell: laid · FnNextMatchesTokenModelOnSmallAlphabet: laid · FnConsumeNameMatchesModel: laid · FnNextTilesTheInputAndCountsEveryNewline: laid.
  DERIVED. THE GIVEN ROWS OF THIS SEAT. 7 by the template 'for every input the law returns true; each argument reads behind the call as it read before'; 0 by the template 'total and deterministic' (their statements: YtocciemgdikmjaaDoorTotals.lean).
  GIVEN WITH THE SEED: the statements are not yours to turn. If you find one false, say at which input.
  Laid BY PROGRAM, IN A SANDBOX (cutbox-rows.mjs): the forced cells as the released guide's own fill.sh prints them over the translation 8640b2427ec007ef… (all of the seat's roots in one cut). By AI agents, Wed Nov 11 2026. No macro, syntax, notation, axiom, sorry.
-/
import Derived.Test.YtocciemgdikmjaaDoorChecked
import GoSem.PinnedTables
import GoSem.Claim
import GoSem.ClaimJoined
import GoSem.ClaimMapViews
import Derived.JoinedTies
import Derived.KernelRfl
namespace Go.Proofs.YtocciemgdikmjaaDoor
/- THE CELL 'sum', in the pinned program and in every row, IS THE sha256 OF THE DUMP (.gsa) THAT YtocciemgdikmjaaDoorProg.lean LOADS. Nothing in Lean hashes anything: it is a label: what it is worth is what the hold of that sum in a sandbox is worth. -/
noncomputable def Tryd.pinned : Pinned := { name := "ytocciemgdikmjaadoor", sum := "8640b2427ec007ef23d16f44fd9c78f56be6e532f9a91a19740dd6b665cf3a85", checked := Tryd.checked }
namespace Rows
def none {H : Type} : Left H := { results := [], args := [] }

/- WHAT THE LISTED PACKAGE-LEVEL VARIABLES READ AS WHEN THE CALL BEGINS. Each datum BY PROGRAM (the guide's laid-datum.mjs) off the statement by which the dump's own 'gosem.cut.vars' lays the variable. In a bare row this is a premise. The card (YtocciemgdikmjaaDoorCards.lean) ties it to the program's text. -/
def laid_unicode_utf8_acceptRanges {H : Type} : DataW H := .agg [.agg [.lit (.int .u8 128), .lit (.int .u8 191)], .agg [.lit (.int .u8 160), .lit (.int .u8 191)], .agg [.lit (.int .u8 128), .lit (.int .u8 159)], .agg [.lit (.int .u8 144), .lit (.int .u8 191)], .agg [.lit (.int .u8 128), .lit (.int .u8 143)], .agg [.lit (.int .u8 0), .lit (.int .u8 0)], .agg [.lit (.int .u8 0), .lit (.int .u8 0)], .agg [.lit (.int .u8 0), .lit (.int .u8 0)], .agg [.lit (.int .u8 0), .lit (.int .u8 0)], .agg [.lit (.int .u8 0), .lit (.int .u8 0)], .agg [.lit (.int .u8 0), .lit (.int .u8 0)], .agg [.lit (.int .u8 0), .lit (.int .u8 0)], .agg [.lit (.int .u8 0), .lit (.int .u8 0)], .agg [.lit (.int .u8 0), .lit (.int .u8 0)], .agg [.lit (.int .u8 0), .lit (.int .u8 0)], .agg [.lit (.int .u8 0), .lit (.int .u8 0)]]
/-- One of Go's own tables, pinned by name: the form's constant. -/
def laid_unicode_utf8_first : DataW Unit := Go.Pinned.utf8First

/-- 'n011_281.FnTokenizeMatchesSmallGrammar': WHATEVER THE INPUT: true; the input reads as it did. -/
def fnTokenizeMatchesSmallGrammarSpec : ChangeSpec := { name := "fnTokenizeMatchesSmallGrammar", fn := fun _ => fun
  | [d1, d2] => { results := [.lit (.bool true)], args := [d1, d2] }
  | _ => none }
def fnTokenizeMatchesSmallGrammarRow : OpenClaim := { program := "ytocciemgdikmjaadoor", sum := "8640b2427ec007ef23d16f44fd9c78f56be6e532f9a91a19740dd6b665cf3a85", func := "github.com/evanw/esbuild/n011_281.FnTokenizeMatchesSmallGrammar", spec := "fnTokenizeMatchesSmallGrammar", inPlace := ["internal/abi.NoEscape", "internal/bytealg.MakeNoZero"], unfollowed := true, recurses := true, named := ["unicode/utf8.first", "unicode/utf8.acceptRanges"], apart := false, laid := [("unicode/utf8.acceptRanges", laid_unicode_utf8_acceptRanges), ("unicode/utf8.first", laid_unicode_utf8_first)] }
def FnTokenizeMatchesSmallGrammarSaid : Prop := fnTokenizeMatchesSmallGrammarRow.holds Tryd.pinned (OpenSpec.ofChange fnTokenizeMatchesSmallGrammarSpec)

/-- ITS FALSE NEIGHBOUR: 'it returns false'. Refute it at one input. -/
def fnTokenizeMatchesSmallGrammarWrong : ChangeSpec := { name := "fnTokenizeMatchesSmallGrammar", fn := fun _ => fun
  | [d1, d2] => { results := [.lit (.bool false)], args := [d1, d2] }
  | _ => none }
def FnTokenizeMatchesSmallGrammarWrongFalsely : Prop := fnTokenizeMatchesSmallGrammarRow.holds Tryd.pinned (OpenSpec.ofChange fnTokenizeMatchesSmallGrammarWrong)

/-- 'n011_170.FnConsumeIdentLikeMatchesModel': WHATEVER THE INPUT: true; the input reads as it did. -/
def fnConsumeIdentLikeMatchesModelSpec : ChangeSpec := { name := "fnConsumeIdentLikeMatchesModel", fn := fun _ => fun
  | [d] => { results := [.lit (.bool true)], args := [d] }
  | _ => none }
def fnConsumeIdentLikeMatchesModelRow : OpenClaim := { program := "ytocciemgdikmjaadoor", sum := "8640b2427ec007ef23d16f44fd9c78f56be6e532f9a91a19740dd6b665cf3a85", func := "github.com/evanw/esbuild/n011_170.FnConsumeIdentLikeMatchesModel", spec := "fnConsumeIdentLikeMatchesModel", inPlace := ["internal/abi.NoEscape"], unfollowed := true, recurses := true, named := ["unicode/utf8.first", "unicode/utf8.acceptRanges"], apart := false, laid := [("unicode/utf8.acceptRanges", laid_unicode_utf8_acceptRanges), ("unicode/utf8.first", laid_unicode_utf8_first)] }
def FnConsumeIdentLikeMatchesModelSaid : Prop := fnConsumeIdentLikeMatchesModelRow.holds Tryd.pinned (OpenSpec.ofChange fnConsumeIdentLikeMatchesModelSpec)

/-- ITS FALSE NEIGHBOUR: 'it returns false'. Refute it at one input. -/
def fnConsumeIdentLikeMatchesModelWrong : ChangeSpec := { name := "fnConsumeIdentLikeMatchesModel", fn := fun _ => fun
  | [d] => { results := [.lit (.bool false)], args := [d] }
  | _ => none }
def FnConsumeIdentLikeMatchesModelWrongFalsely : Prop := fnConsumeIdentLikeMatchesModelRow.holds Tryd.pinned (OpenSpec.ofChange fnConsumeIdentLikeMatchesModelWrong)

/-- 'n011_281.FnIsNumericExactlyForTokensThatStartANumber': WHATEVER THE INPUT: true; the input reads as it did. -/
def fnIsNumericExactlyForTokensThatStartANumberSpec : ChangeSpec := { name := "fnIsNumericExactlyForTokensThatStartANumber", fn := fun _ => fun
  | [d] => { results := [.lit (.bool true)], args := [d] }
  | _ => none }
def fnIsNumericExactlyForTokensThatStartANumberRow : OpenClaim := { program := "ytocciemgdikmjaadoor", sum := "8640b2427ec007ef23d16f44fd9c78f56be6e532f9a91a19740dd6b665cf3a85", func := "github.com/evanw/esbuild/n011_281.FnIsNumericExactlyForTokensThatStartANumber", spec := "fnIsNumericExactlyForTokensThatStartANumber", inPlace := ["internal/abi.NoEscape", "internal/bytealg.MakeNoZero"], unfollowed := true, recurses := true, named := ["unicode/utf8.first", "unicode/utf8.acceptRanges"], apart := false, laid := [("unicode/utf8.acceptRanges", laid_unicode_utf8_acceptRanges), ("unicode/utf8.first", laid_unicode_utf8_first)] }
def FnIsNumericExactlyForTokensThatStartANumberSaid : Prop := fnIsNumericExactlyForTokensThatStartANumberRow.holds Tryd.pinned (OpenSpec.ofChange fnIsNumericExactlyForTokensThatStartANumberSpec)

/-- ITS FALSE NEIGHBOUR: 'it returns false'. Refute it at one input. -/
def fnIsNumericExactlyForTokensThatStartANumberWrong : ChangeSpec := { name := "fnIsNumericExactlyForTokensThatStartANumber", fn := fun _ => fun
  | [d] => { results := [.lit (.bool false)], args := [d] }
  | _ => none }
def FnIsNumericExactlyForTokensThatStartANumberWrongFalsely : Prop := fnIsNumericExactlyForTokensThatStartANumberRow.holds Tryd.pinned (OpenSpec.ofChange fnIsNumericExactlyForTokensThatStartANumberWrong)

/-- 'n011_311.FnConsumeStringEndsWell': WHATEVER THE INPUT: true; the input reads as it did. -/
def fnConsumeStringEndsWellSpec : ChangeSpec := { name := "fnConsumeStringEndsWell", fn := fun _ => fun
  | [d1, d2] => { results := [.lit (.bool true)], args := [d1, d2] }
  | _ => none }
def fnConsumeStringEndsWellRow : OpenClaim := { program := "ytocciemgdikmjaadoor", sum := "8640b2427ec007ef23d16f44fd9c78f56be6e532f9a91a19740dd6b665cf3a85", func := "github.com/evanw/esbuild/n011_311.FnConsumeStringEndsWell", spec := "fnConsumeStringEndsWell", inPlace := ["(*internal/sync.Mutex).Lock", "internal/race.Disable", "sync/atomic.CompareAndSwapInt32", "internal/race.Enable", "internal/race.Acquire", "(*internal/sync.Mutex).lockSlow", "internal/sync.runtime_canSpin", "internal/sync.runtime_doSpin", "internal/sync.throw", "internal/sync.runtime_nanotime", "internal/sync.runtime_SemacquireMutex", "sync/atomic.AddInt32", "(*internal/sync.Mutex).Unlock", "internal/race.ReleaseMerge", "(*internal/sync.Mutex).unlockSlow", "internal/sync.fatal", "internal/sync.runtime_Semrelease"], unfollowed := true, recurses := true, named := ["unicode/utf8.first", "unicode/utf8.acceptRanges"], apart := false, laid := [("unicode/utf8.acceptRanges", laid_unicode_utf8_acceptRanges), ("unicode/utf8.first", laid_unicode_utf8_first)] }
def FnConsumeStringEndsWellSaid : Prop := fnConsumeStringEndsWellRow.holds Tryd.pinned (OpenSpec.ofChange fnConsumeStringEndsWellSpec)

/-- ITS FALSE NEIGHBOUR: 'it returns false'. Refute it at one input. -/
def fnConsumeStringEndsWellWrong : ChangeSpec := { name := "fnConsumeStringEndsWell", fn := fun _ => fun
  | [d1, d2] => { results := [.lit (.bool false)], args := [d1, d2] }
  | _ => none }
def FnConsumeStringEndsWellWrongFalsely : Prop := fnConsumeStringEndsWellRow.holds Tryd.pinned (OpenSpec.ofChange fnConsumeStringEndsWellWrong)

/-- 'n011_111.FnNextMatchesTokenModelOnSmallAlphabet': WHATEVER THE INPUT: true; the input reads as it did. -/
def fnNextMatchesTokenModelOnSmallAlphabetSpec : ChangeSpec := { name := "fnNextMatchesTokenModelOnSmallAlphabet", fn := fun _ => fun
  | [d] => { results := [.lit (.bool true)], args := [d] }
  | _ => none }
def fnNextMatchesTokenModelOnSmallAlphabetRow : OpenClaim := { program := "ytocciemgdikmjaadoor", sum := "8640b2427ec007ef23d16f44fd9c78f56be6e532f9a91a19740dd6b665cf3a85", func := "github.com/evanw/esbuild/n011_111.FnNextMatchesTokenModelOnSmallAlphabet", spec := "fnNextMatchesTokenModelOnSmallAlphabet", inPlace := ["internal/abi.NoEscape", "internal/bytealg.MakeNoZero"], unfollowed := true, recurses := true, named := ["unicode/utf8.first", "unicode/utf8.acceptRanges"], apart := false, laid := [("unicode/utf8.acceptRanges", laid_unicode_utf8_acceptRanges), ("unicode/utf8.first", laid_unicode_utf8_first)] }
def FnNextMatchesTokenModelOnSmallAlphabetSaid : Prop := fnNextMatchesTokenModelOnSmallAlphabetRow.holds Tryd.pinned (OpenSpec.ofChange fnNextMatchesTokenModelOnSmallAlphabetSpec)

/-- ITS FALSE NEIGHBOUR: 'it returns false'. Refute it at one input. -/
def fnNextMatchesTokenModelOnSmallAlphabetWrong : ChangeSpec := { name := "fnNextMatchesTokenModelOnSmallAlphabet", fn := fun _ => fun
  | [d] => { results := [.lit (.bool false)], args := [d] }
  | _ => none }
def FnNextMatchesTokenModelOnSmallAlphabetWrongFalsely : Prop := fnNextMatchesTokenModelOnSmallAlphabetRow.holds Tryd.pinned (OpenSpec.ofChange fnNextMatchesTokenModelOnSmallAlphabetWrong)

/-- 'n011_170.FnConsumeNameMatchesModel': WHATEVER THE INPUT: true; the input reads as it did. -/
def fnConsumeNameMatchesModelSpec : ChangeSpec := { name := "fnConsumeNameMatchesModel", fn := fun _ => fun
  | [d] => { results := [.lit (.bool true)], args := [d] }
  | _ => none }
def fnConsumeNameMatchesModelRow : OpenClaim := { program := "ytocciemgdikmjaadoor", sum := "8640b2427ec007ef23d16f44fd9c78f56be6e532f9a91a19740dd6b665cf3a85", func := "github.com/evanw/esbuild/n011_170.FnConsumeNameMatchesModel", spec := "fnConsumeNameMatchesModel", inPlace := ["internal/abi.NoEscape"], named := ["unicode/utf8.first", "unicode/utf8.acceptRanges"], apart := false, laid := [("unicode/utf8.acceptRanges", laid_unicode_utf8_acceptRanges), ("unicode/utf8.first", laid_unicode_utf8_first)] }
def FnConsumeNameMatchesModelSaid : Prop := fnConsumeNameMatchesModelRow.holds Tryd.pinned (OpenSpec.ofChange fnConsumeNameMatchesModelSpec)

/-- ITS FALSE NEIGHBOUR: 'it returns false'. Refute it at one input. -/
def fnConsumeNameMatchesModelWrong : ChangeSpec := { name := "fnConsumeNameMatchesModel", fn := fun _ => fun
  | [d] => { results := [.lit (.bool false)], args := [d] }
  | _ => none }
def FnConsumeNameMatchesModelWrongFalsely : Prop := fnConsumeNameMatchesModelRow.holds Tryd.pinned (OpenSpec.ofChange fnConsumeNameMatchesModelWrong)

/-- 'n011_111.FnNextTilesTheInputAndCountsEveryNewline': WHATEVER THE INPUT: true; the input reads as it did. -/
def fnNextTilesTheInputAndCountsEveryNewlineSpec : ChangeSpec := { name := "fnNextTilesTheInputAndCountsEveryNewline", fn := fun _ => fun
  | [d] => { results := [.lit (.bool true)], args := [d] }
  | _ => none }
def fnNextTilesTheInputAndCountsEveryNewlineRow : OpenClaim := { program := "ytocciemgdikmjaadoor", sum := "8640b2427ec007ef23d16f44fd9c78f56be6e532f9a91a19740dd6b665cf3a85", func := "github.com/evanw/esbuild/n011_111.FnNextTilesTheInputAndCountsEveryNewline", spec := "fnNextTilesTheInputAndCountsEveryNewline", inPlace := ["internal/abi.NoEscape", "internal/bytealg.MakeNoZero"], unfollowed := true, recurses := true, named := ["unicode/utf8.first", "unicode/utf8.acceptRanges"], apart := false, laid := [("unicode/utf8.acceptRanges", laid_unicode_utf8_acceptRanges), ("unicode/utf8.first", laid_unicode_utf8_first)] }
def FnNextTilesTheInputAndCountsEveryNewlineSaid : Prop := fnNextTilesTheInputAndCountsEveryNewlineRow.holds Tryd.pinned (OpenSpec.ofChange fnNextTilesTheInputAndCountsEveryNewlineSpec)

/-- ITS FALSE NEIGHBOUR: 'it returns false'. Refute it at one input. -/
def fnNextTilesTheInputAndCountsEveryNewlineWrong : ChangeSpec := { name := "fnNextTilesTheInputAndCountsEveryNewline", fn := fun _ => fun
  | [d] => { results := [.lit (.bool false)], args := [d] }
  | _ => none }
def FnNextTilesTheInputAndCountsEveryNewlineWrongFalsely : Prop := fnNextTilesTheInputAndCountsEveryNewlineRow.holds Tryd.pinned (OpenSpec.ofChange fnNextTilesTheInputAndCountsEveryNewlineWrong)

/- THE SECOND FORM. 'bulk': how many values and letters a reading holds, each counted each time it is reached (what is shared counts as often as it is met; a slice's spare places count too). A statement '..UptoSaid' is the law's where the arguments, and the package variables that the reading takes, are together of bulk at most 1048576: NARROWER than '..Said'. Prove '..Said' where nothing that the law and all that it calls make is longer than what came in: it says more and counts as full. Else prove '..UptoSaid'. A law counts once. -/
mutual
def uptoBulk {H : Type} : DataW H → Nat
  | .lit (.string bytes) => bytes.length + 1
  | .lit _ => 1
  | .nil => 1
  | .ptr d => uptoBulk d + 1
  | .slice elems spare => uptoBulkAll elems + uptoBulkAll spare + 1
  | .agg parts => uptoBulkAll parts + 1
  | .iface _ d => uptoBulk d + 1
  | .map entries => uptoBulkEntries entries + 1
  | .held _ => 1
def uptoBulkAll {H : Type} : List (DataW H) → Nat
  | [] => 0
  | d :: r => uptoBulk d + uptoBulkAll r
def uptoBulkEntries {H : Type} : List (Lit × DataW H) → Nat
  | [] => 0
  | x :: r => uptoBulkEntry x + uptoBulkEntries r
def uptoBulkEntry {H : Type} : Lit × DataW H → Nat
  | (.string bytes, d) => bytes.length + uptoBulk d + 1
  | (_, d) => uptoBulk d + 1
 end
def uptoSmall : (H : Type) → List (DataW H) → Bool := fun _ ds => decide (uptoBulkAll ds ≤ 1048576)
def OpenSpec.upto (s : _root_.Go.ChangeSpec) : _root_.Go.OpenSpec := { _root_.Go.OpenSpec.ofChange s with cond := some uptoSmall }

/-- 'n011_281.FnTokenizeMatchesSmallGrammar', WHERE WHAT IT READS IS OF BULK AT MOST 1048576: true; the input reads as it did. -/
def fnTokenizeMatchesSmallGrammarUptoRow : OpenClaim := { program := "ytocciemgdikmjaadoor", sum := "8640b2427ec007ef23d16f44fd9c78f56be6e532f9a91a19740dd6b665cf3a85", func := "github.com/evanw/esbuild/n011_281.FnTokenizeMatchesSmallGrammar", spec := "fnTokenizeMatchesSmallGrammar", inPlace := ["internal/abi.NoEscape", "internal/bytealg.MakeNoZero"], unfollowed := true, recurses := true, named := ["unicode/utf8.first", "unicode/utf8.acceptRanges"], apart := false, laid := [("unicode/utf8.acceptRanges", laid_unicode_utf8_acceptRanges), ("unicode/utf8.first", laid_unicode_utf8_first)], narrowed := true }
def FnTokenizeMatchesSmallGrammarUptoSaid : Prop := fnTokenizeMatchesSmallGrammarUptoRow.holds Tryd.pinned (OpenSpec.upto fnTokenizeMatchesSmallGrammarSpec)

/-- 'n011_170.FnConsumeIdentLikeMatchesModel', WHERE WHAT IT READS IS OF BULK AT MOST 1048576: true; the input reads as it did. -/
def fnConsumeIdentLikeMatchesModelUptoRow : OpenClaim := { program := "ytocciemgdikmjaadoor", sum := "8640b2427ec007ef23d16f44fd9c78f56be6e532f9a91a19740dd6b665cf3a85", func := "github.com/evanw/esbuild/n011_170.FnConsumeIdentLikeMatchesModel", spec := "fnConsumeIdentLikeMatchesModel", inPlace := ["internal/abi.NoEscape"], unfollowed := true, recurses := true, named := ["unicode/utf8.first", "unicode/utf8.acceptRanges"], apart := false, laid := [("unicode/utf8.acceptRanges", laid_unicode_utf8_acceptRanges), ("unicode/utf8.first", laid_unicode_utf8_first)], narrowed := true }
def FnConsumeIdentLikeMatchesModelUptoSaid : Prop := fnConsumeIdentLikeMatchesModelUptoRow.holds Tryd.pinned (OpenSpec.upto fnConsumeIdentLikeMatchesModelSpec)

/-- 'n011_281.FnIsNumericExactlyForTokensThatStartANumber', WHERE WHAT IT READS IS OF BULK AT MOST 1048576: true; the input reads as it did. -/
def fnIsNumericExactlyForTokensThatStartANumberUptoRow : OpenClaim := { program := "ytocciemgdikmjaadoor", sum := "8640b2427ec007ef23d16f44fd9c78f56be6e532f9a91a19740dd6b665cf3a85", func := "github.com/evanw/esbuild/n011_281.FnIsNumericExactlyForTokensThatStartANumber", spec := "fnIsNumericExactlyForTokensThatStartANumber", inPlace := ["internal/abi.NoEscape", "internal/bytealg.MakeNoZero"], unfollowed := true, recurses := true, named := ["unicode/utf8.first", "unicode/utf8.acceptRanges"], apart := false, laid := [("unicode/utf8.acceptRanges", laid_unicode_utf8_acceptRanges), ("unicode/utf8.first", laid_unicode_utf8_first)], narrowed := true }
def FnIsNumericExactlyForTokensThatStartANumberUptoSaid : Prop := fnIsNumericExactlyForTokensThatStartANumberUptoRow.holds Tryd.pinned (OpenSpec.upto fnIsNumericExactlyForTokensThatStartANumberSpec)

/-- 'n011_311.FnConsumeStringEndsWell', WHERE WHAT IT READS IS OF BULK AT MOST 1048576: true; the input reads as it did. -/
def fnConsumeStringEndsWellUptoRow : OpenClaim := { program := "ytocciemgdikmjaadoor", sum := "8640b2427ec007ef23d16f44fd9c78f56be6e532f9a91a19740dd6b665cf3a85", func := "github.com/evanw/esbuild/n011_311.FnConsumeStringEndsWell", spec := "fnConsumeStringEndsWell", inPlace := ["(*internal/sync.Mutex).Lock", "internal/race.Disable", "sync/atomic.CompareAndSwapInt32", "internal/race.Enable", "internal/race.Acquire", "(*internal/sync.Mutex).lockSlow", "internal/sync.runtime_canSpin", "internal/sync.runtime_doSpin", "internal/sync.throw", "internal/sync.runtime_nanotime", "internal/sync.runtime_SemacquireMutex", "sync/atomic.AddInt32", "(*internal/sync.Mutex).Unlock", "internal/race.ReleaseMerge", "(*internal/sync.Mutex).unlockSlow", "internal/sync.fatal", "internal/sync.runtime_Semrelease"], unfollowed := true, recurses := true, named := ["unicode/utf8.first", "unicode/utf8.acceptRanges"], apart := false, laid := [("unicode/utf8.acceptRanges", laid_unicode_utf8_acceptRanges), ("unicode/utf8.first", laid_unicode_utf8_first)], narrowed := true }
def FnConsumeStringEndsWellUptoSaid : Prop := fnConsumeStringEndsWellUptoRow.holds Tryd.pinned (OpenSpec.upto fnConsumeStringEndsWellSpec)

/-- 'n011_111.FnNextMatchesTokenModelOnSmallAlphabet', WHERE WHAT IT READS IS OF BULK AT MOST 1048576: true; the input reads as it did. -/
def fnNextMatchesTokenModelOnSmallAlphabetUptoRow : OpenClaim := { program := "ytocciemgdikmjaadoor", sum := "8640b2427ec007ef23d16f44fd9c78f56be6e532f9a91a19740dd6b665cf3a85", func := "github.com/evanw/esbuild/n011_111.FnNextMatchesTokenModelOnSmallAlphabet", spec := "fnNextMatchesTokenModelOnSmallAlphabet", inPlace := ["internal/abi.NoEscape", "internal/bytealg.MakeNoZero"], unfollowed := true, recurses := true, named := ["unicode/utf8.first", "unicode/utf8.acceptRanges"], apart := false, laid := [("unicode/utf8.acceptRanges", laid_unicode_utf8_acceptRanges), ("unicode/utf8.first", laid_unicode_utf8_first)], narrowed := true }
def FnNextMatchesTokenModelOnSmallAlphabetUptoSaid : Prop := fnNextMatchesTokenModelOnSmallAlphabetUptoRow.holds Tryd.pinned (OpenSpec.upto fnNextMatchesTokenModelOnSmallAlphabetSpec)

/-- 'n011_170.FnConsumeNameMatchesModel', WHERE WHAT IT READS IS OF BULK AT MOST 1048576: true; the input reads as it did. -/
def fnConsumeNameMatchesModelUptoRow : OpenClaim := { program := "ytocciemgdikmjaadoor", sum := "8640b2427ec007ef23d16f44fd9c78f56be6e532f9a91a19740dd6b665cf3a85", func := "github.com/evanw/esbuild/n011_170.FnConsumeNameMatchesModel", spec := "fnConsumeNameMatchesModel", inPlace := ["internal/abi.NoEscape"], named := ["unicode/utf8.first", "unicode/utf8.acceptRanges"], apart := false, laid := [("unicode/utf8.acceptRanges", laid_unicode_utf8_acceptRanges), ("unicode/utf8.first", laid_unicode_utf8_first)], narrowed := true }
def FnConsumeNameMatchesModelUptoSaid : Prop := fnConsumeNameMatchesModelUptoRow.holds Tryd.pinned (OpenSpec.upto fnConsumeNameMatchesModelSpec)

/-- 'n011_111.FnNextTilesTheInputAndCountsEveryNewline', WHERE WHAT IT READS IS OF BULK AT MOST 1048576: true; the input reads as it did. -/
def fnNextTilesTheInputAndCountsEveryNewlineUptoRow : OpenClaim := { program := "ytocciemgdikmjaadoor", sum := "8640b2427ec007ef23d16f44fd9c78f56be6e532f9a91a19740dd6b665cf3a85", func := "github.com/evanw/esbuild/n011_111.FnNextTilesTheInputAndCountsEveryNewline", spec := "fnNextTilesTheInputAndCountsEveryNewline", inPlace := ["internal/abi.NoEscape", "internal/bytealg.MakeNoZero"], unfollowed := true, recurses := true, named := ["unicode/utf8.first", "unicode/utf8.acceptRanges"], apart := false, laid := [("unicode/utf8.acceptRanges", laid_unicode_utf8_acceptRanges), ("unicode/utf8.first", laid_unicode_utf8_first)], narrowed := true }
def FnNextTilesTheInputAndCountsEveryNewlineUptoSaid : Prop := fnNextTilesTheInputAndCountsEveryNewlineUptoRow.holds Tryd.pinned (OpenSpec.upto fnNextTilesTheInputAndCountsEveryNewlineSpec)

end Rows
end Go.Proofs.YtocciemgdikmjaaDoor
