/-
  What the rows' list gives: the base64 alphabet lies in its variable.
-/
import Derived.Test.YtlplikpjnocdfaaDoorRows
import Derived.Lib.LaidPrint
import Derived.ProofKit
import Derived.Stop.Joined
import Derived.LaidMore
namespace Go.Proofs.YtlplikpjnocdfaaDoor
open Go.ChangeShapes Go.WideShapes Go.ChangeAt Go.RowKit
/-- the base64 alphabet -/
def b64 : List Nat := [65, 66, 67, 68, 69, 70, 71, 72, 73, 74, 75, 76, 77, 78, 79, 80, 81, 82, 83, 84, 85, 86, 87, 88, 89, 90, 97, 98, 99, 100, 101, 102, 103, 104, 105, 106, 107, 108, 109, 110, 111, 112, 113, 114, 115, 116, 117, 118, 119, 120, 121, 122, 48, 49, 50, 51, 52, 53, 54, 55, 56, 57, 43, 47]
theorem b64_is : (Rows.laid_github_com_evanw_esbuild_internal_sourcemap_base64 : DataW Unit) = Lib.sliceData .u8 b64 := by kernel_rfl
theorem tab_of {W : World} (h : laidMetH Tryd.prog [("github.com/evanw/esbuild/internal/sourcemap.base64", Rows.laid_github_com_evanw_esbuild_internal_sourcemap_base64)] W) : Lib.TabSlice 0 .u8 b64 W := by
  rw [MakeChecks.laidMetH_plain _ _ _ (by kernel_rfl)] at h
  rw [b64_is] at h
  exact Lib.tabSlice_of_reads (by kernel_rfl) (by kernel_rfl) Tryd.underlying34 Tryd.underlying5 (by kernel_rfl) (by decide) (Lib.laidMet.reads (n := "github.com/evanw/esbuild/internal/sourcemap.base64") h (by simp))
end Go.Proofs.YtlplikpjnocdfaaDoor
