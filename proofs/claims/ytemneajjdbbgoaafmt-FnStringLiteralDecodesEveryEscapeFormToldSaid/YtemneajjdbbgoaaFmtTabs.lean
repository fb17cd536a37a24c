/-
  What the rows' list gives: Go's utf8 tables hold what their initialisers lay.
-/
import Derived.Test.YtemneajjdbbgoaaFmtRows
import Derived.Test.YtemneajjdbbgoaaFmtShelf
import Derived.Lib.LaidU8
import Derived.ProofKit
import Derived.Stop.Joined
import Derived.LaidMore
namespace Go.Proofs.YtemneajjdbbgoaaFmt
open Go.ChangeShapes Go.WideShapes Go.ChangeAt Go.RowKit
theorem extra : U8Extra Tryf.prog Tryf.lays260_ren where
  n3 := by kernel_rfl
  n4 := by kernel_rfl
  y3 := by kernel_rfl
  y4 := by kernel_rfl
  c5 := by kernel_rfl
  c119 := by kernel_rfl
  c138 := by kernel_rfl
theorem first_is : Rows.laid_unicode_utf8_first = Lib.firstData := by kernel_rfl
theorem accept_is : (Rows.laid_unicode_utf8_acceptRanges : DataW Unit) = Lib.acceptData := by kernel_rfl
theorem tabs_of {W : World} (h : laidMetH Tryf.prog [("unicode/utf8.acceptRanges", Rows.laid_unicode_utf8_acceptRanges), ("unicode/utf8.first", Rows.laid_unicode_utf8_first)] W) : Lib.Utf8Tabs 0 1 W := by
  rw [MakeChecks.laidMetH_plain _ _ _ (by kernel_rfl)] at h
  rw [first_is, accept_is] at h
  exact utf8Tabs_of_reads Tryf.lays260 extra (Lib.laidMet.reads h (by simp)) (Lib.laidMet.reads h (by simp))
end Go.Proofs.YtemneajjdbbgoaaFmt
