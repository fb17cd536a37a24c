/-
  Bits of runes, plainly.
-/
import Derived.Test.YtocciemgdikmjaaDoorQ5
namespace Go.Proofs.YtocciemgdikmjaaDoor
open Go.ChangeShapes Go.WideShapes Go.ChangeAt Go.RowKit
open Go.Lib (decodeN decode_at decodeGo)
set_option linter.unusedVariables false
theorem wr_i32 (x : Nat) (h : x < 2147483648) : IntKind.i32.wrap (x : Int) = (x : Int) := by rw [IntKind.wrap_i32]; omega
theorem bits3 (b0 b1 b2 : Nat) (h0 : b0 < 256) (h1 : b1 < 256) (h2 : b2 < 256) : bits BinOp.or IntKind.i32 (bits BinOp.or IntKind.i32 (IntKind.i32.wrap (IntKind.i32.wrap (bits BinOp.and IntKind.u8 (b0 : Int) 15) * 4096)) (IntKind.i32.wrap (IntKind.i32.wrap (bits BinOp.and IntKind.u8 (b1 : Int) 63) * 64))) (IntKind.i32.wrap (bits BinOp.and IntKind.u8 (b2 : Int) 63)) = (b0 : Int) % 16 * 4096 + (b1 : Int) % 64 * 64 + (b2 : Int) % 64 := by
  rw [show (15 : Int) = ((15 : Nat) : Int) from rfl, show (63 : Int) = ((63 : Nat) : Int) from rfl, u8_mask b0 4 15 h0 rfl (by omega), u8_mask b1 6 63 h1 rfl (by omega), u8_mask b2 6 63 h2 rfl (by omega)]
  have e0 : (b0 : Int) % 16 = ((b0 % 2 ^ 4 : Nat) : Int) := by omega
  have e1 : (b1 : Int) % 64 = ((b1 % 2 ^ 6 : Nat) : Int) := by omega
  have e2 : (b2 : Int) % 64 = ((b2 % 2 ^ 6 : Nat) : Int) := by omega
  rw [e0, e1, e2]
  obtain ⟨x0, hx0⟩ : ∃ x, b0 % 2 ^ 4 = x := ⟨_, rfl⟩
  obtain ⟨x1, hx1⟩ : ∃ x, b1 % 2 ^ 6 = x := ⟨_, rfl⟩
  obtain ⟨x2, hx2⟩ : ∃ x, b2 % 2 ^ 6 = x := ⟨_, rfl⟩
  rw [hx0, hx1, hx2]
  have l0 : x0 < 16 := by omega
  have l1 : x1 < 64 := by omega
  have l2 : x2 < 64 := by omega
  rw [wr_i32 x0 (by omega), wr_i32 x1 (by omega), wr_i32 x2 (by omega), show (x0 : Int) * 4096 = ((x0 * 2 ^ 12 : Nat) : Int) by omega, show (x1 : Int) * 64 = ((x1 * 64 : Nat) : Int) by omega, wr_i32 (x0 * 2 ^ 12) (by omega), wr_i32 (x1 * 64) (by omega), i32_join x0 (x1 * 64) 12 (by omega) (by omega) (by omega), show x0 * 2 ^ 12 + x1 * 64 = (x0 * 64 + x1) * 2 ^ 6 by omega, i32_join (x0 * 64 + x1) x2 6 (by omega) (by omega) (by omega)]
  omega
theorem bits4 (b0 b1 b2 b3 : Nat) (h0 : b0 < 256) (h1 : b1 < 256) (h2 : b2 < 256) (h3 : b3 < 256) : bits BinOp.or IntKind.i32 (bits BinOp.or IntKind.i32 (bits BinOp.or IntKind.i32 (IntKind.i32.wrap (IntKind.i32.wrap (bits BinOp.and IntKind.u8 (b0 : Int) 7) * 262144)) (IntKind.i32.wrap (IntKind.i32.wrap (bits BinOp.and IntKind.u8 (b1 : Int) 63) * 4096))) (IntKind.i32.wrap (IntKind.i32.wrap (bits BinOp.and IntKind.u8 (b2 : Int) 63) * 64))) (IntKind.i32.wrap (bits BinOp.and IntKind.u8 (b3 : Int) 63)) = (b0 : Int) % 8 * 262144 + (b1 : Int) % 64 * 4096 + (b2 : Int) % 64 * 64 + (b3 : Int) % 64 := by
  rw [show (7 : Int) = ((7 : Nat) : Int) from rfl, show (63 : Int) = ((63 : Nat) : Int) from rfl, u8_mask b0 3 7 h0 rfl (by omega), u8_mask b1 6 63 h1 rfl (by omega), u8_mask b2 6 63 h2 rfl (by omega), u8_mask b3 6 63 h3 rfl (by omega)]
  have e0 : (b0 : Int) % 8 = ((b0 % 2 ^ 3 : Nat) : Int) := by omega
  have e1 : (b1 : Int) % 64 = ((b1 % 2 ^ 6 : Nat) : Int) := by omega
  have e2 : (b2 : Int) % 64 = ((b2 % 2 ^ 6 : Nat) : Int) := by omega
  have e3 : (b3 : Int) % 64 = ((b3 % 2 ^ 6 : Nat) : Int) := by omega
  rw [e0, e1, e2, e3]
  obtain ⟨x0, hx0⟩ : ∃ x, b0 % 2 ^ 3 = x := ⟨_, rfl⟩
  obtain ⟨x1, hx1⟩ : ∃ x, b1 % 2 ^ 6 = x := ⟨_, rfl⟩
  obtain ⟨x2, hx2⟩ : ∃ x, b2 % 2 ^ 6 = x := ⟨_, rfl⟩
  obtain ⟨x3, hx3⟩ : ∃ x, b3 % 2 ^ 6 = x := ⟨_, rfl⟩
  rw [hx0, hx1, hx2, hx3]
  have l0 : x0 < 8 := by omega
  have l1 : x1 < 64 := by omega
  have l2 : x2 < 64 := by omega
  have l3 : x3 < 64 := by omega
  rw [wr_i32 x0 (by omega), wr_i32 x1 (by omega), wr_i32 x2 (by omega), wr_i32 x3 (by omega), show (x0 : Int) * 262144 = ((x0 * 2 ^ 18 : Nat) : Int) by omega, show (x1 : Int) * 4096 = ((x1 * 4096 : Nat) : Int) by omega, show (x2 : Int) * 64 = ((x2 * 64 : Nat) : Int) by omega, wr_i32 (x0 * 2 ^ 18) (by omega), wr_i32 (x1 * 4096) (by omega), wr_i32 (x2 * 64) (by omega), i32_join x0 (x1 * 4096) 18 (by omega) (by omega) (by omega), show x0 * 2 ^ 18 + x1 * 4096 = (x0 * 64 + x1) * 2 ^ 12 by omega, i32_join (x0 * 64 + x1) (x2 * 64) 12 (by omega) (by omega) (by omega), show (x0 * 64 + x1) * 2 ^ 12 + x2 * 64 = ((x0 * 64 + x1) * 64 + x2) * 2 ^ 6 by omega, i32_join ((x0 * 64 + x1) * 64 + x2) x3 6 (by omega) (by omega) (by omega)]
  omega
end Go.Proofs.YtocciemgdikmjaaDoor
