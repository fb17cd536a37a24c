/-
  Base64 VLQ, plainly: digits, where a reader stops, the value. No Go in sight.
-/
import Derived.Test.YtbigamkmkmfdfaaDoorK1
import Derived.Lib.Hide
namespace Go.Proofs.YtbigamkmkmfdfaaDoor
/-- the digit that a byte stands for, or -1 -/
def dgt (x : Int) : Int := if 65 ≤ x ∧ x ≤ 90 then x - 65 else if 97 ≤ x ∧ x ≤ 122 then x - 71 else if 48 ≤ x ∧ x ≤ 57 then x + 4 else if x = 43 then 62 else if x = 47 then 63 else -1
theorem dgt_lt (x : Int) : dgt x < 64 := by unfold dgt; repeat' split <;> omega
theorem dgt_ge (x : Int) : -1 ≤ dgt x := by unfold dgt; repeat' split <;> omega
theorem i64_and_nat (a b : Nat) (ha : a < 9223372036854775808) (hb : b < 9223372036854775808) : bits .and .i64 (a : Int) (b : Int) = ((a &&& b : Nat) : Int) := by
  have hx : a &&& b < 2 ^ 63 := Nat.and_lt_two_pow _ (by omega)
  show IntKind.i64.wrap ((BitVec.ofInt 64 (a : Int) &&& BitVec.ofInt 64 (b : Int)).toNat : Int) = _
  rw [BitVec.toNat_and, BitVec.ofInt_natCast, BitVec.toNat_ofNat, BitVec.ofInt_natCast, BitVec.toNat_ofNat, Nat.mod_eq_of_lt (by omega), Nat.mod_eq_of_lt (by omega), IntKind.wrap_i64]
  omega
theorem i64_or_nat (a b : Nat) (ha : a < 9223372036854775808) (hb : b < 9223372036854775808) : bits .or .i64 (a : Int) (b : Int) = ((a ||| b : Nat) : Int) := by
  have hx : a ||| b < 2 ^ 63 := Nat.or_lt_two_pow (by omega) (by omega)
  show IntKind.i64.wrap ((BitVec.ofInt 64 (a : Int) ||| BitVec.ofInt 64 (b : Int)).toNat : Int) = _
  rw [BitVec.toNat_or, BitVec.ofInt_natCast, BitVec.toNat_ofNat, BitVec.ofInt_natCast, BitVec.toNat_ofNat, Nat.mod_eq_of_lt (by omega), Nat.mod_eq_of_lt (by omega), IntKind.wrap_i64]
  omega
theorem and31 (d : Nat) (h : d < 9223372036854775808) : bits .and .i64 (d : Int) 31 = ((d % 32 : Nat) : Int) := by
  rw [show (31 : Int) = ((31 : Nat) : Int) from rfl, i64_and_nat d 31 h (by omega), show (31 : Nat) = 2 ^ 5 - 1 from rfl, Nat.and_two_pow_sub_one_eq_mod]
theorem and1 (d : Nat) (h : d < 9223372036854775808) : bits .and .i64 (d : Int) 1 = ((d % 2 : Nat) : Int) := by
  rw [show (1 : Int) = ((1 : Nat) : Int) from rfl, i64_and_nat d 1 h (by omega), show (1 : Nat) = 2 ^ 1 - 1 from rfl, Nat.and_two_pow_sub_one_eq_mod]
theorem and32 (d : Nat) (h : d < 64) : (bits .and .i64 (d : Int) 32 == 0) = decide (d < 32) := by
  rw [show (32 : Int) = ((32 : Nat) : Int) from rfl, i64_and_nat d 32 (by omega) (by omega)]
  have : ∀ d, d < 64 → ((((d &&& 32 : Nat) : Int)) == 0) = decide (d < 32) := by decide
  exact this d h
theorem or_join (v d k : Nat) (hv : v < 2 ^ k) (hd : d < 32) (hk : k ≤ 30) : bits .or .i64 (v : Int) ((d * 2 ^ k : Nat) : Int) = ((v + d * 2 ^ k : Nat) : Int) := by
  have h1 : 2 ^ k ≤ 2 ^ 30 := Nat.pow_le_pow_right (by omega) hk
  have h2 : d * 2 ^ k ≤ 31 * 2 ^ 30 := Nat.mul_le_mul (by omega) h1
  rw [i64_or_nat v (d * 2 ^ k) (by omega) (by omega), Nat.or_comm]
  have e : d * 2 ^ k ||| v = d * 2 ^ k + v := by
    rw [Nat.mul_comm d (2 ^ k)]
    exact (Nat.two_pow_add_eq_or_of_lt hv d).symm
  rw [e, Nat.add_comm]
/-- the place where a reader of a VLQ that starts at k stops -/
inductive Scan (xs : List Int) : Nat → Nat → Prop
  | bad (k : Nat) : k < xs.length → dgt (xs.getD k 0) < 0 → Scan xs k k
  | last (k : Nat) : k < xs.length → 0 ≤ dgt (xs.getD k 0) → dgt (xs.getD k 0) < 32 → Scan xs k (k + 1)
  | more (k e : Nat) : k < xs.length → 32 ≤ dgt (xs.getD k 0) → Scan xs (k + 1) e → Scan xs k e
theorem Scan.le {xs : List Int} {k e : Nat} (h : Scan xs k e) : k ≤ e := by
  induction h with
  | bad => omega
  | last => omega
  | more _ _ _ _ _ ih => omega
theorem Scan.fits {xs : List Int} {k e : Nat} (h : Scan xs k e) : e ≤ xs.length := by
  induction h with
  | bad => omega
  | last => omega
  | more _ _ _ _ _ ih => omega
/-- the value of n digits from k on, the first one the lowest -/
def val (xs : List Int) (k : Nat) : Nat → Nat
  | 0 => 0
  | n + 1 => (dgt (xs.getD k 0)).toNat % 32 + 32 * val xs (k + 1) n
theorem val_lt (xs : List Int) : ∀ (n k : Nat), val xs k n < 2 ^ (5 * n)
  | 0, k => by simp [val]
  | n + 1, k => by
    have ih := val_lt xs n (k + 1)
    have e : 2 ^ (5 * (n + 1)) = 2 ^ (5 * n) * 32 := by rw [Nat.mul_add, Nat.pow_add]
    unfold val
    omega
theorem val_snoc (xs : List Int) : ∀ (n k : Nat), val xs k (n + 1) = val xs k n + (dgt (xs.getD (k + n) 0)).toNat % 32 * 2 ^ (5 * n)
  | 0, k => by simp [val]
  | n + 1, k => by
    have ih := val_snoc xs n (k + 1)
    rw [val, ih, val]
    have e : 2 ^ (5 * (n + 1)) = 2 ^ (5 * n) * 32 := by rw [Nat.mul_add, Nat.pow_add]
    rw [e, show k + 1 + n = k + (n + 1) by omega]
    rw [← Nat.mul_assoc]
    omega
/-- the signed number that a value stands for -/
def sgn (v : Nat) : Int := if v % 2 = 1 then -((v / 2 : Nat) : Int) else ((v / 2 : Nat) : Int)
end Go.Proofs.YtbigamkmkmfdfaaDoor
