/-
  Decoding and UTF-16, plainly. No Go in sight.
-/
import Derived.Lib.DecodeN
import Derived.WalkKit
namespace Go.Proofs.YtocciemgdikmjaaDoor
open Go.Lib (decodeN decode_at)
/-- decoding by the acceptance table -/
def zd (n b0 b1 b2 b3 : Nat) : Nat × Nat :=
  if b0 < 128 then (b0, 1)
  else if 194 ≤ b0 ∧ b0 ≤ 223 then (if 2 ≤ n ∧ 128 ≤ b1 ∧ b1 ≤ 191 then (b0 % 32 * 64 + b1 % 64, 2) else (65533, 1))
  else if 224 ≤ b0 ∧ b0 ≤ 239 then (if 3 ≤ n ∧ (if b0 = 224 then 160 else 128) ≤ b1 ∧ b1 ≤ (if b0 = 237 then 159 else 191) ∧ 128 ≤ b2 ∧ b2 ≤ 191 then (b0 % 16 * 4096 + b1 % 64 * 64 + b2 % 64, 3) else (65533, 1))
  else if 240 ≤ b0 ∧ b0 ≤ 244 then (if 4 ≤ n ∧ (if b0 = 240 then 144 else 128) ≤ b1 ∧ b1 ≤ (if b0 = 244 then 143 else 191) ∧ 128 ≤ b2 ∧ b2 ≤ 191 ∧ 128 ≤ b3 ∧ b3 ≤ 191 then (b0 % 8 * 262144 + b1 % 64 * 4096 + b2 % 64 * 64 + b3 % 64, 4) else (65533, 1))
  else (65533, 1)
theorem zd_eq (n b0 b1 b2 b3 : Nat) (h0 : b0 < 256) (h1 : b1 < 256) (h2 : b2 < 256) (h3 : b3 < 256) : zd n b0 b1 b2 b3 = decodeN n b0 b1 b2 b3 := by
  unfold zd decodeN
  by_cases a0 : b0 < 128
  · rw [if_pos a0, if_pos a0]
  rw [if_neg a0, if_neg a0]
  by_cases c1 : 194 ≤ b0 ∧ b0 ≤ 223
  · rw [if_pos c1]
    by_cases c : 2 ≤ n ∧ 128 ≤ b1 ∧ b1 ≤ 191
    · rw [if_pos c, if_pos (by omega), if_pos (by omega)]
    · rw [if_neg c]
      by_cases d : b0 / 32 = 6 ∧ 1 < n ∧ b1 / 64 = 2
      · exfalso; omega
      · rw [if_neg d, if_neg (by omega), if_neg (by omega)]
  rw [if_neg c1]
  by_cases c2 : 224 ≤ b0 ∧ b0 ≤ 239
  · rw [if_pos c2]
    rw [if_neg (show ¬ (b0 / 32 = 6 ∧ 1 < n ∧ b1 / 64 = 2) by omega)]
    by_cases c : 3 ≤ n ∧ (if b0 = 224 then 160 else 128) ≤ b1 ∧ b1 ≤ (if b0 = 237 then 159 else 191) ∧ 128 ≤ b2 ∧ b2 ≤ 191
    · rw [if_pos c]
      have d : b0 / 16 = 14 ∧ (1 < n ∧ b1 / 64 = 2) ∧ (2 < n ∧ b2 / 64 = 2) := by split at c <;> split at c <;> omega
      rw [if_pos d, if_pos (by split at c <;> split at c <;> omega)]
    · rw [if_neg c]
      by_cases d : b0 / 16 = 14 ∧ (1 < n ∧ b1 / 64 = 2) ∧ (2 < n ∧ b2 / 64 = 2)
      · rw [if_pos d, if_neg (by split at c <;> split at c <;> omega)]
      · rw [if_neg d, if_neg (by omega)]
  rw [if_neg c2]
  by_cases c3 : 240 ≤ b0 ∧ b0 ≤ 244
  · rw [if_pos c3]
    rw [if_neg (show ¬ (b0 / 32 = 6 ∧ 1 < n ∧ b1 / 64 = 2) by omega), if_neg (show ¬ (b0 / 16 = 14 ∧ (1 < n ∧ b1 / 64 = 2) ∧ (2 < n ∧ b2 / 64 = 2)) by omega)]
    by_cases c : 4 ≤ n ∧ (if b0 = 240 then 144 else 128) ≤ b1 ∧ b1 ≤ (if b0 = 244 then 143 else 191) ∧ 128 ≤ b2 ∧ b2 ≤ 191 ∧ 128 ≤ b3 ∧ b3 ≤ 191
    · rw [if_pos c]
      have d : b0 / 8 = 30 ∧ (1 < n ∧ b1 / 64 = 2) ∧ (2 < n ∧ b2 / 64 = 2) ∧ (3 < n ∧ b3 / 64 = 2) := by split at c <;> split at c <;> omega
      rw [if_pos d, if_pos (by split at c <;> split at c <;> omega)]
    · rw [if_neg c]
      by_cases d : b0 / 8 = 30 ∧ (1 < n ∧ b1 / 64 = 2) ∧ (2 < n ∧ b2 / 64 = 2) ∧ (3 < n ∧ b3 / 64 = 2)
      · rw [if_pos d, if_neg (by split at c <;> split at c <;> omega)]
      · rw [if_neg d]
  rw [if_neg c3]
  by_cases d1 : b0 / 32 = 6 ∧ 1 < n ∧ b1 / 64 = 2
  · rw [if_pos d1, if_neg (by omega)]
  rw [if_neg d1, if_neg (by omega)]
  by_cases d3 : b0 / 8 = 30 ∧ (1 < n ∧ b1 / 64 = 2) ∧ (2 < n ∧ b2 / 64 = 2) ∧ (3 < n ∧ b3 / 64 = 2)
  · rw [if_pos d3, if_neg (by omega)]
  · rw [if_neg d3]
open Go in
theorem i32_and_nat (a b : Nat) (ha : a < 2147483648) (hb : b < 2147483648) : bits .and .i32 (a : Int) (b : Int) = ((a &&& b : Nat) : Int) := by
  have hx : a &&& b < 2 ^ 31 := Nat.and_lt_two_pow _ (by omega)
  show IntKind.i32.wrap ((BitVec.ofInt 32 (a : Int) &&& BitVec.ofInt 32 (b : Int)).toNat : Int) = _
  rw [BitVec.toNat_and, BitVec.ofInt_natCast, BitVec.toNat_ofNat, BitVec.ofInt_natCast, BitVec.toNat_ofNat, Nat.mod_eq_of_lt (by omega), Nat.mod_eq_of_lt (by omega), IntKind.wrap_i32]
  omega
open Go in
theorem i32_or_nat (a b : Nat) (ha : a < 2147483648) (hb : b < 2147483648) : bits .or .i32 (a : Int) (b : Int) = ((a ||| b : Nat) : Int) := by
  have hx : a ||| b < 2 ^ 31 := Nat.or_lt_two_pow (by omega) (by omega)
  show IntKind.i32.wrap ((BitVec.ofInt 32 (a : Int) ||| BitVec.ofInt 32 (b : Int)).toNat : Int) = _
  rw [BitVec.toNat_or, BitVec.ofInt_natCast, BitVec.toNat_ofNat, BitVec.ofInt_natCast, BitVec.toNat_ofNat, Nat.mod_eq_of_lt (by omega), Nat.mod_eq_of_lt (by omega), IntKind.wrap_i32]
  omega
open Go in
theorem u8_and_nat (a b : Nat) (ha : a < 256) (hb : b < 256) : bits .and .u8 (a : Int) (b : Int) = ((a &&& b : Nat) : Int) := by
  have hx : a &&& b < 2 ^ 8 := Nat.and_lt_two_pow _ (by omega)
  show IntKind.u8.wrap ((BitVec.ofInt 8 (a : Int) &&& BitVec.ofInt 8 (b : Int)).toNat : Int) = _
  rw [BitVec.toNat_and, BitVec.ofInt_natCast, BitVec.toNat_ofNat, BitVec.ofInt_natCast, BitVec.toNat_ofNat, Nat.mod_eq_of_lt (by omega), Nat.mod_eq_of_lt (by omega), IntKind.wrap_u8]
  omega
open Go in
theorem u8_mask (a k m : Nat) (ha : a < 256) (hm : m = 2 ^ k - 1) (hb : m < 256) : bits .and .u8 (a : Int) (m : Int) = ((a % 2 ^ k : Nat) : Int) := by
  rw [u8_and_nat a m ha hb, hm, Nat.and_two_pow_sub_one_eq_mod]
open Go in
theorem i32_mask (a k m : Nat) (ha : a < 2147483648) (hm : m = 2 ^ k - 1) (hb : m < 2147483648) : bits .and .i32 (a : Int) (m : Int) = ((a % 2 ^ k : Nat) : Int) := by
  rw [i32_and_nat a m ha hb, hm, Nat.and_two_pow_sub_one_eq_mod]
open Go in
theorem i32_join (h l k : Nat) (hl : l < 2 ^ k) (hb : h * 2 ^ k < 2147483648) (hk : 2 ^ k ≤ 2147483648) : bits .or .i32 ((h * 2 ^ k : Nat) : Int) (l : Int) = ((h * 2 ^ k + l : Nat) : Int) := by
  rw [i32_or_nat _ _ hb (by omega)]
  have := Nat.two_pow_add_eq_or_of_lt hl h
  rw [Nat.mul_comm h (2 ^ k), this]
/-- the UTF-16 units of a code point -/
def u16 (r : Nat) : List Int := if r < 65536 then [(r : Int)] else [((55296 + (r - 65536) / 1024 : Nat) : Int), ((56320 + (r - 65536) % 1024 : Nat) : Int)]
end Go.Proofs.YtocciemgdikmjaaDoor
