/-
  zzValidRuneLen_b3 and the case table; the walk of FnWouldStartIdentifierCaseTable.
-/
import Derived.Test.YtkhcbbpkppkgjaaDoorH1
import Derived.Test.YtkhcbbpkppkgjaaDoorH2
namespace Go.Proofs.YtkhcbbpkppkgjaaDoor
open Go.ChangeShapes Go.WideShapes Go.ChangeAt Go.RowKit
open Go.Lib (decodeN decode_at decodeGo)
set_option linter.unusedVariables false
/-- a byte of s, or 0 behind its end -/
def byt (s : ByteArray) (i : Nat) : Nat := (s.get! i).toNat
theorem byt_lt (s : ByteArray) (i : Nat) : byt s i < 256 := UInt8.toNat_lt _
theorem byt_at (s : ByteArray) (i : Nat) (h : i < s.size) : (s[i]'h).toNat = byt s i := by
  have e2 : s.get! i = s[i]'h := by
    simp only [ByteArray.get!, ByteArray.getElem_eq_getElem_data]
    exact getElem!_pos s.data i (by simpa using h)
  rw [byt, e2]
/-- k bytes follow the first one, the first of them between lo and hi, the others continuation bytes -/
def okSeq (k lo hi : Nat) (s : ByteArray) (i : Nat) : Prop := k < s.size - i ∧ (lo ≤ byt s (i + 1) ∧ byt s (i + 1) ≤ hi) ∧ ∀ j, 2 ≤ j → j ≤ k → 128 ≤ byt s (i + j) ∧ byt s (i + j) ≤ 191
end Go.Proofs.YtkhcbbpkppkgjaaDoor
