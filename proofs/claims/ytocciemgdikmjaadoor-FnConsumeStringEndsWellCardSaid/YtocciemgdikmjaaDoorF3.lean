/-
  Where an escape stands.
-/
import Derived.Test.YtocciemgdikmjaaDoorF2
namespace Go.Proofs.YtocciemgdikmjaaDoor
open Go.ChangeShapes Go.WideShapes Go.ChangeAt Go.RowKit
open Go.Lib (decodeN decode_at decodeGo)
set_option linter.unusedVariables false
theorem dec_size (y : ByteArray) : (decodeGo y).2 ≤ y.size := by
  unfold decodeGo
  split
  · omega
  · rw [decode_at]
    simp only [Nat.sub_zero, Nat.zero_add]
    generalize (y.get! 0).toNat = b0
    generalize (y.get! 1).toNat = b1
    generalize (y.get! 2).toNat = b2
    generalize (y.get! 3).toNat = b3
    unfold decodeN
    repeat' split
    all_goals (simp; omega)
theorem stepped_below {w w' : World} {g B : Nat} (h : Stepped w w' g) (hB : B ≤ w.heap.size) (hg : B ≤ g) : Below B w w' :=
  ⟨h.by_.os, h.by_.tape, h.by_.output, h.by_.size, fun k hk => h.by_.block k (by omega) (fun e => by injection e; omega)⟩
theorem ive_end (s : ByteArray) : iveB s (s.size + (decodeGo (s.extract s.size s.size)).2) (cpOf s s.size) = false := by
  unfold iveB; rw [cp_end]; rfl
theorem ive_other (s : ByteArray) (p : Nat) (h : p < s.size) (hb : (s[p]'h).toNat ≠ 92) : iveB s (p + (decodeGo (s.extract p s.size)).2) (cpOf s p) = false := by
  unfold iveB
  by_cases h1 : (s[p]'h).toNat < 128
  · rw [cp_ascii s p h h1]; simp; omega
  · have := cp_high s p h (by omega)
    have h2 : (cpOf s p == 92) = false := by simp; omega
    rw [h2]; rfl
theorem ive_slash (s : ByteArray) (p : Nat) (h : p < s.size) (hb : (s[p]'h).toNat = 92) : iveB s (p + (decodeGo (s.extract p s.size)).2) (cpOf s p) = !nlAt s (p + 1) := by
  unfold iveB
  rw [cp_ascii s p h (by omega), (at_byte s p h).1 (by omega), hb]; rfl
end Go.Proofs.YtocciemgdikmjaaDoor
