/-
  zzDecodeB4, whole.
-/
import Derived.Test.YtocciemgdikmjaaDoorQ6
import Derived.Test.YtocciemgdikmjaaDoorQ7
namespace Go.Proofs.YtocciemgdikmjaaDoor
open Go.ChangeShapes Go.WideShapes Go.ChangeAt Go.RowKit
open Go.Lib (decodeN decode_at decodeGo)
set_option linter.unusedVariables false
theorem dz65 (s : ByteArray) (i : Nat) (hi : i < s.size) (hs : s.size ≤ 1048576) (w : World) :
    Calls Tryd.prog 65 #[.string s, .int .i64 i] w fun e w' => RuneAt s i e ∧ Below w.heap.size w w' := by
  obtain ⟨b0, y0⟩ : ∃ b, byt s i = b := ⟨_, rfl⟩
  have hl : b0 < 256 := by rw [← y0]; exact byt_lt _ _
  have : b0 < 128 ∨ (128 ≤ b0 ∧ b0 ≤ 193) ∨ (245 ≤ b0 ∧ b0 ≤ 255) ∨ (194 ≤ b0 ∧ b0 ≤ 223) ∨ (224 ≤ b0 ∧ b0 ≤ 224) ∨ (225 ≤ b0 ∧ b0 ≤ 236) ∨ (237 ≤ b0 ∧ b0 ≤ 237) ∨ (238 ≤ b0 ∧ b0 ≤ 239) ∨ (240 ≤ b0 ∧ b0 ≤ 240) ∨ (241 ≤ b0 ∧ b0 ≤ 243) ∨ (244 ≤ b0 ∧ b0 ≤ 244) := by omega
  rcases this with h | h | h | h | h | h | h | h | h | h | h
  · exact dz65_lo s i b0 hi hs y0 h w
  · exact dz65_x0 s i b0 hi hs y0 h.1 h.2 w
  · exact dz65_x1 s i b0 hi hs y0 h.1 h.2 w
  · exact dz65_b s i b0 hi hs y0 h.1 h.2 w
  · exact dz65_c0 s i b0 hi hs y0 h.1 h.2 w
  · exact dz65_c1 s i b0 hi hs y0 h.1 h.2 w
  · exact dz65_c2 s i b0 hi hs y0 h.1 h.2 w
  · exact dz65_c3 s i b0 hi hs y0 h.1 h.2 w
  · exact dz65_d0 s i b0 hi hs y0 h.1 h.2 w
  · exact dz65_d1 s i b0 hi hs y0 h.1 h.2 w
  · exact dz65_d2 s i b0 hi hs y0 h.1 h.2 w
end Go.Proofs.YtocciemgdikmjaaDoor
