/-
  zzDecodeRune.
-/
import Derived.Test.YtcnembabenlheaaDoorZ2
import Derived.Test.YtcnembabenlheaaDoorZ3
import Derived.Test.YtcnembabenlheaaDoorZ4
import Derived.Test.YtcnembabenlheaaDoorZ5
import Derived.Test.YtcnembabenlheaaDoorZ6
namespace Go.Proofs.YtcnembabenlheaaDoor
open Go.ChangeShapes Go.WideShapes Go.ChangeAt Go.RowKit
open Go.Lib (decodeN decode_at decodeGo)
set_option linter.unusedVariables false
theorem dr14 (s : ByteArray) (i : Nat) (hi : i < s.size) (hs : s.size ≤ 1048576) (w : World) :
    Calls Tryd.prog 14 #[.string s, .int .i64 i] w fun e w' => RuneAt s i e ∧ Below w.heap.size w w' := by
  have hl : (s[i]'hi).toNat < 256 := UInt8.toNat_lt _
  have : (s[i]'hi).toNat < 128 ∨ (128 ≤ (s[i]'hi).toNat ∧ (s[i]'hi).toNat ≤ 193) ∨ (245 ≤ (s[i]'hi).toNat ∧ (s[i]'hi).toNat ≤ 255) ∨ (194 ≤ (s[i]'hi).toNat ∧ (s[i]'hi).toNat ≤ 223) ∨ (224 ≤ (s[i]'hi).toNat ∧ (s[i]'hi).toNat ≤ 224) ∨ (225 ≤ (s[i]'hi).toNat ∧ (s[i]'hi).toNat ≤ 236) ∨ (237 ≤ (s[i]'hi).toNat ∧ (s[i]'hi).toNat ≤ 237) ∨ (238 ≤ (s[i]'hi).toNat ∧ (s[i]'hi).toNat ≤ 239) ∨ (240 ≤ (s[i]'hi).toNat ∧ (s[i]'hi).toNat ≤ 240) ∨ (241 ≤ (s[i]'hi).toNat ∧ (s[i]'hi).toNat ≤ 243) ∨ (244 ≤ (s[i]'hi).toNat ∧ (s[i]'hi).toNat ≤ 244) := by omega
  rcases this with h | h | h | h | h | h | h | h | h | h | h
  · exact dr14_lo s i hi hs h w
  · exact dr14_x0 s i hi hs h.1 h.2 w
  · exact dr14_x1 s i hi hs h.1 h.2 w
  · exact dr14_b s i hi hs h.1 h.2 w
  · exact dr14_c0 s i hi hs h.1 h.2 w
  · exact dr14_c1 s i hi hs h.1 h.2 w
  · exact dr14_c2 s i hi hs h.1 h.2 w
  · exact dr14_c3 s i hi hs h.1 h.2 w
  · exact dr14_d0 s i hi hs h.1 h.2 w
  · exact dr14_d1 s i hi hs h.1 h.2 w
  · exact dr14_d2 s i hi hs h.1 h.2 w
end Go.Proofs.YtcnembabenlheaaDoor
