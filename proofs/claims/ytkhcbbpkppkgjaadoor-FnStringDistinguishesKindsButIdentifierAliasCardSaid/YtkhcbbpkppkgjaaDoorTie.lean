/-
  DERIVED. GIVEN WITH THE SEED: THE PROGRAM's TIES (one call each: nine closed facts by the kernel) AND EACH ROW's TIE, after the 31st guide's Derived/Test/Toyas{Tie, Card}.lean. No idea stands in it: it is a product of the set-up. Laid BY PROGRAM, IN A SANDBOX (cutbox-door.mjs). By AI agents, Wed Nov 11 2026. No macro, syntax, notation, axiom, sorry.
-/
import Derived.Test.YtkhcbbpkppkgjaaDoorRows
import Derived.LaidByTextLater
import Derived.SevenTiedAt
import Derived.LaidSub
import Derived.LaidOnce
namespace Go.Proofs.YtkhcbbpkppkgjaaDoor
open Go
set_option maxRecDepth 100000
theorem seatTie1 : Tryd.prog.laidByTextLater [("unicode/utf8.acceptRanges", Rows.laid_unicode_utf8_acceptRanges), ("github.com/evanw/esbuild/internal/css_lexer.tokenToString", Rows.laid_github_com_evanw_esbuild_internal_css_lexer_tokenToString)] [.data, .data] true :=
  Program.laidByTextLater_by_one 24 8 41 (by kernel_rfl) (by kernel_rfl) (by kernel_rfl) (by kernel_rfl) (by kernel_rfl) (by kernel_rfl) (fun _ _ => by kernel_rfl)
theorem pin_laid_unicode_utf8_first : Tryd.pinned.checked.prog.pinnedFits "unicode/utf8.first" = true := by kernel_rfl
theorem noOwnUnsafe : Tryd.pinned.checked.prog.headLifts.contains "ownunsafe" = false := by kernel_rfl
theorem fits1 : Tryd.pinned.checked.prog.listedFits [("unicode/utf8.acceptRanges", Rows.laid_unicode_utf8_acceptRanges), ("unicode/utf8.first", Rows.laid_unicode_utf8_first)] = true := by
  unfold Program.listedFits
  rw [noOwnUnsafe]
  kernel_rfl
theorem tie : Tryd.prog.laidByTextLater [("unicode/utf8.acceptRanges", Rows.laid_unicode_utf8_acceptRanges)] [.data] true :=
  Program.laidByTextLater.sub seatTie1 ["unicode/utf8.acceptRanges"] (by kernel_rfl) (by kernel_rfl)
theorem fnWouldStartIdentifierCaseTable_row_tie : Rows.fnWouldStartIdentifierCaseTableRow.laidByTextAt .later Tryd.pinned [.data, .pinned] true :=
  OpenClaim.laidByTextAt_pinned rfl rfl tie rfl rfl rfl rfl (fun y hy _e => by
    simp only [Rows.fnWouldStartIdentifierCaseTableRow, List.zip_cons_cons, List.zip_nil_right, List.mem_cons, List.mem_nil_iff, or_false] at hy
    rcases hy with rfl | rfl
    · cases _e
    · exact ⟨pin_laid_unicode_utf8_first, by kernel_rfl⟩) fits1
theorem fnIsValidEscapeCaseTable_row_tie : Rows.fnIsValidEscapeCaseTableRow.laidByTextAt .later Tryd.pinned [.data, .pinned] true :=
  OpenClaim.laidByTextAt_pinned rfl rfl tie rfl rfl rfl rfl (fun y hy _e => by
    simp only [Rows.fnIsValidEscapeCaseTableRow, List.zip_cons_cons, List.zip_nil_right, List.mem_cons, List.mem_nil_iff, or_false] at hy
    rcases hy with rfl | rfl
    · cases _e
    · exact ⟨pin_laid_unicode_utf8_first, by kernel_rfl⟩) fits1
theorem fnWouldStartIdentifierWithoutEscapesExtension_row_tie : Rows.fnWouldStartIdentifierWithoutEscapesExtensionRow.laidByTextAt .later Tryd.pinned [.data, .pinned] true :=
  OpenClaim.laidByTextAt_pinned rfl rfl tie rfl rfl rfl rfl (fun y hy _e => by
    simp only [Rows.fnWouldStartIdentifierWithoutEscapesExtensionRow, List.zip_cons_cons, List.zip_nil_right, List.mem_cons, List.mem_nil_iff, or_false] at hy
    rcases hy with rfl | rfl
    · cases _e
    · exact ⟨pin_laid_unicode_utf8_first, by kernel_rfl⟩) fits1
theorem fnRangeOfIdentifierEscapeFreeIsNameRun_row_tie : Rows.fnRangeOfIdentifierEscapeFreeIsNameRunRow.laidByTextAt .later Tryd.pinned [.data, .pinned] true :=
  OpenClaim.laidByTextAt_pinned rfl rfl tie rfl rfl rfl rfl (fun y hy _e => by
    simp only [Rows.fnRangeOfIdentifierEscapeFreeIsNameRunRow, List.zip_cons_cons, List.zip_nil_right, List.mem_cons, List.mem_nil_iff, or_false] at hy
    rcases hy with rfl | rfl
    · cases _e
    · exact ⟨pin_laid_unicode_utf8_first, by kernel_rfl⟩) fits1
theorem fnWouldStartNumberIsPureAndLocal_row_tie : Rows.fnWouldStartNumberIsPureAndLocalRow.laidByTextAt .later Tryd.pinned [.data, .pinned] true :=
  OpenClaim.laidByTextAt_pinned rfl rfl tie rfl rfl rfl rfl (fun y hy _e => by
    simp only [Rows.fnWouldStartNumberIsPureAndLocalRow, List.zip_cons_cons, List.zip_nil_right, List.mem_cons, List.mem_nil_iff, or_false] at hy
    rcases hy with rfl | rfl
    · cases _e
    · exact ⟨pin_laid_unicode_utf8_first, by kernel_rfl⟩) fits1
theorem tie2 : Tryd.prog.laidByTextLater [("github.com/evanw/esbuild/internal/css_lexer.tokenToString", Rows.laid_github_com_evanw_esbuild_internal_css_lexer_tokenToString)] [.data] true :=
  Program.laidByTextLater.sub seatTie1 ["github.com/evanw/esbuild/internal/css_lexer.tokenToString"] (by kernel_rfl) (by kernel_rfl)
theorem fnStringDistinguishesKindsButIdentifierAlias_row_tie : Rows.fnStringDistinguishesKindsButIdentifierAliasRow.laidByTextAt .later Tryd.pinned [.data] true :=
  OpenClaim.laidByTextAt_later rfl rfl tie2 noOwnUnsafe
theorem fnWouldStartIdentifierCaseTableUpto_row_tie : Rows.fnWouldStartIdentifierCaseTableUptoRow.laidByTextAt .later Tryd.pinned [.data, .pinned] true :=
  OpenClaim.laidByTextAt_pinned rfl rfl tie rfl rfl rfl rfl (fun y hy _e => by
    simp only [Rows.fnWouldStartIdentifierCaseTableUptoRow, List.zip_cons_cons, List.zip_nil_right, List.mem_cons, List.mem_nil_iff, or_false] at hy
    rcases hy with rfl | rfl
    · cases _e
    · exact ⟨pin_laid_unicode_utf8_first, by kernel_rfl⟩) fits1
theorem fnIsValidEscapeCaseTableUpto_row_tie : Rows.fnIsValidEscapeCaseTableUptoRow.laidByTextAt .later Tryd.pinned [.data, .pinned] true :=
  OpenClaim.laidByTextAt_pinned rfl rfl tie rfl rfl rfl rfl (fun y hy _e => by
    simp only [Rows.fnIsValidEscapeCaseTableUptoRow, List.zip_cons_cons, List.zip_nil_right, List.mem_cons, List.mem_nil_iff, or_false] at hy
    rcases hy with rfl | rfl
    · cases _e
    · exact ⟨pin_laid_unicode_utf8_first, by kernel_rfl⟩) fits1
theorem fnWouldStartIdentifierWithoutEscapesExtensionUpto_row_tie : Rows.fnWouldStartIdentifierWithoutEscapesExtensionUptoRow.laidByTextAt .later Tryd.pinned [.data, .pinned] true :=
  OpenClaim.laidByTextAt_pinned rfl rfl tie rfl rfl rfl rfl (fun y hy _e => by
    simp only [Rows.fnWouldStartIdentifierWithoutEscapesExtensionUptoRow, List.zip_cons_cons, List.zip_nil_right, List.mem_cons, List.mem_nil_iff, or_false] at hy
    rcases hy with rfl | rfl
    · cases _e
    · exact ⟨pin_laid_unicode_utf8_first, by kernel_rfl⟩) fits1
theorem fnRangeOfIdentifierEscapeFreeIsNameRunUpto_row_tie : Rows.fnRangeOfIdentifierEscapeFreeIsNameRunUptoRow.laidByTextAt .later Tryd.pinned [.data, .pinned] true :=
  OpenClaim.laidByTextAt_pinned rfl rfl tie rfl rfl rfl rfl (fun y hy _e => by
    simp only [Rows.fnRangeOfIdentifierEscapeFreeIsNameRunUptoRow, List.zip_cons_cons, List.zip_nil_right, List.mem_cons, List.mem_nil_iff, or_false] at hy
    rcases hy with rfl | rfl
    · cases _e
    · exact ⟨pin_laid_unicode_utf8_first, by kernel_rfl⟩) fits1
theorem fnStringDistinguishesKindsButIdentifierAliasUpto_row_tie : Rows.fnStringDistinguishesKindsButIdentifierAliasUptoRow.laidByTextAt .later Tryd.pinned [.data] true :=
  OpenClaim.laidByTextAt_later rfl rfl tie2 noOwnUnsafe
theorem fnWouldStartNumberIsPureAndLocalUpto_row_tie : Rows.fnWouldStartNumberIsPureAndLocalUptoRow.laidByTextAt .later Tryd.pinned [.data, .pinned] true :=
  OpenClaim.laidByTextAt_pinned rfl rfl tie rfl rfl rfl rfl (fun y hy _e => by
    simp only [Rows.fnWouldStartNumberIsPureAndLocalUptoRow, List.zip_cons_cons, List.zip_nil_right, List.mem_cons, List.mem_nil_iff, or_false] at hy
    rcases hy with rfl | rfl
    · cases _e
    · exact ⟨pin_laid_unicode_utf8_first, by kernel_rfl⟩) fits1
end Go.Proofs.YtkhcbbpkppkgjaaDoor
