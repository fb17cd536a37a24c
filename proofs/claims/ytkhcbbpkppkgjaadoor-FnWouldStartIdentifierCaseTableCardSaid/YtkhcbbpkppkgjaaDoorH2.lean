/-
  Where a well-formed rune stands, by its bytes. No Go in sight.
-/
import Derived.Test.YtkhcbbpkppkgjaaDoorF3
namespace Go.Proofs.YtkhcbbpkppkgjaaDoor
open Go.Lib (decodeN decode_at decodeGo)
/-- no rune, or an ill-formed one, stands at b0 -/
def badN (n b0 b1 b2 b3 : Nat) : Prop := (decodeN n b0 b1 b2 b3).1 = 65533 ∧ (decodeN n b0 b1 b2 b3).2 ≤ 1
set_option maxHeartbeats 1000000 in
theorem seq1 (n b0 b1 b2 b3 : Nat) (h1 : b1 < 256) (h : 194 ≤ b0 ∧ b0 ≤ 223) : ¬ badN n b0 b1 b2 b3 ↔ (1 < n ∧ 128 ≤ b1 ∧ b1 ≤ 191) := by
  unfold badN decodeN
  rw [if_neg (by omega : ¬ b0 < 128)]
  repeat' split
  all_goals first | omega | (simp; omega)
set_option maxHeartbeats 1000000 in
theorem seq2 (n b0 b1 b2 b3 lo hi : Nat) (h1 : b1 < 256) (h2 : b2 < 256)
    (h : (b0 = 224 ∧ lo = 160 ∧ hi = 191) ∨ ((225 ≤ b0 ∧ b0 ≤ 236) ∧ lo = 128 ∧ hi = 191) ∨ (b0 = 237 ∧ lo = 128 ∧ hi = 159) ∨ ((b0 = 238 ∨ b0 = 239) ∧ lo = 128 ∧ hi = 191)) :
    ¬ badN n b0 b1 b2 b3 ↔ (2 < n ∧ (lo ≤ b1 ∧ b1 ≤ hi) ∧ 128 ≤ b2 ∧ b2 ≤ 191) := by
  unfold badN decodeN
  rw [if_neg (by omega : ¬ b0 < 128), if_neg (by omega)]
  repeat' split
  all_goals first | omega | (simp; omega)
set_option maxHeartbeats 1000000 in
theorem seq3 (n b0 b1 b2 b3 lo hi : Nat) (h1 : b1 < 256) (h2 : b2 < 256) (h3 : b3 < 256)
    (h : (b0 = 240 ∧ lo = 144 ∧ hi = 191) ∨ ((241 ≤ b0 ∧ b0 ≤ 243) ∧ lo = 128 ∧ hi = 191) ∨ (b0 = 244 ∧ lo = 128 ∧ hi = 143)) :
    ¬ badN n b0 b1 b2 b3 ↔ (3 < n ∧ (lo ≤ b1 ∧ b1 ≤ hi) ∧ (128 ≤ b2 ∧ b2 ≤ 191) ∧ 128 ≤ b3 ∧ b3 ≤ 191) := by
  unfold badN decodeN
  rw [if_neg (by omega : ¬ b0 < 128), if_neg (by omega), if_neg (by omega)]
  repeat' split
  all_goals first | omega | (simp; omega)
theorem seq0 (n b0 b1 b2 b3 : Nat) (h : (128 ≤ b0 ∧ b0 ≤ 193) ∨ (245 ≤ b0 ∧ b0 < 256)) : badN n b0 b1 b2 b3 := by
  unfold badN decodeN
  rw [if_neg (by omega : ¬ b0 < 128)]
  repeat' split
  all_goals first | omega | (simp; omega)
end Go.Proofs.YtkhcbbpkppkgjaaDoor
