/-
  The walk of FnCookedIsNilOnBadEscapeRawKept.
-/
import Derived.Test.YtcnembabenlheaaDoorT8
import Derived.Test.YtcnembabenlheaaDoorS3
namespace Go.Proofs.YtcnembabenlheaaDoor
open Go.ChangeShapes Go.WideShapes Go.ChangeAt Go.RowKit
set_option linter.unusedVariables false
theorem zb20 (p t : ByteArray) (a b : Int) (w : World) : Calls Tryd.prog 20 #[.string p, .string t, .int .u8 a, .int .u8 b] w fun e w' => (∃ b, e = .returned (.bool b) ∧ (b = true → p.size + t.size ≤ 1048576)) ∧ w = w' := by
  by_cases h1 : p.size ≤ 1048576
  · by_cases h2 : t.size ≤ 1048576
    · by_cases h3 : p.size + t.size ≤ 1048576
      · go_enter Tryd.func20, Tryd.ntmps20
        go_wp2_with fail
        go_ret
        exact ⟨⟨true, rfl, fun _ => h3⟩, rfl⟩
      · go_enter Tryd.func20, Tryd.ntmps20
        go_wp2_with fail
        go_ret
        exact ⟨⟨false, rfl, fun h => by cases h⟩, rfl⟩
    · go_enter Tryd.func20, Tryd.ntmps20
      go_wp2_with fail
      go_ret
      exact ⟨⟨false, rfl, fun h => by cases h⟩, rfl⟩
  · go_enter Tryd.func20, Tryd.ntmps20
    go_wp2_with fail
    go_ret
    exact ⟨⟨false, rfl, fun h => by cases h⟩, rfl⟩
set_option maxRecDepth 100000 in
set_option maxHeartbeats 4000000 in
theorem pt21 (s : ByteArray) (hs : s.size ≤ 1048576) (w : World) : Calls Tryd.prog 21 #[.string s] w fun e w' => (∃ b, e = .returned (.bool b) ∧ (b = true → ∀ i, i < s.size → byt s i < 128 ∧ byt s i ≠ 92 ∧ byt s i ≠ 13)) ∧ w = w' := by
  go_enter Tryd.func21, Tryd.ntmps21
  go_wp2_with fail
  go_loopw [3] (fun iv w' => ∃ i : Nat, iv = .int .i64 i ∧ w = w' ∧ i ≤ s.size ∧ ∀ k, k < i → byt s k < 128 ∧ byt s k ≠ 92 ∧ byt s k ≠ 13) (fun iv w' => s.size - (intOf iv).toNat)
  case atStart => exact ⟨0, rfl, rfl, by omega, fun k hk => absurd hk (by omega)⟩
  case round =>
    obtain ⟨i, rfl, rfl, hi, hall⟩ := hrel
    have HA := Lib.hid hall
    clear hall
    by_cases hlt : i < s.size
    · have HB := Lib.hid (byt_at s i hlt)
      obtain ⟨C, hC⟩ : ∃ C, (s[i]'hlt).toNat = C := ⟨_, rfl⟩
      have hC' : ((s[i]'hlt).toNat : Int) = (C : Int) := by omega
      by_cases h0 : C < 128
      · by_cases h1 : C = 92
        · subst h1
          go_wp2_with fail
          go_ret
          exact ⟨⟨false, rfl, fun h => by cases h⟩, rfl⟩
        by_cases h2 : C = 96
        · subst h2
          go_wp2_with fail
          go_ret
          exact ⟨⟨false, rfl, fun h => by cases h⟩, rfl⟩
        by_cases h3 : C = 36
        · subst h3
          go_wp2_with fail
          go_ret
          exact ⟨⟨false, rfl, fun h => by cases h⟩, rfl⟩
        by_cases h4 : C = 13
        · subst h4
          go_wp2_with fail
          go_ret
          exact ⟨⟨false, rfl, fun h => by cases h⟩, rfl⟩
        have e1 : ((C : Int) == 92) = false := by rw [beq_eq_false_iff_ne]; omega
        have e2 : ((C : Int) == 96) = false := by rw [beq_eq_false_iff_ne]; omega
        have e3 : ((C : Int) == 36) = false := by rw [beq_eq_false_iff_ne]; omega
        have e4 : ((C : Int) == 13) = false := by rw [beq_eq_false_iff_ne]; omega
        have HE := Lib.hid (And.intro h0 (And.intro h1 h4)); have HC := Lib.hid hC
        clear h1 h2 h3 h4 hC
        go_wp2_with fail
        go_roundw
        case rel =>
          refine ⟨i + 1, by simp, by trivial, by omega, fun k hk => ?_⟩
          by_cases hki : k < i
          · exact HA.out k hki
          · obtain rfl : k = i := by omega
            rw [← HB.out, HC.out]; exact HE.out
        case measure => simp only [intOf]; omega
      · go_wp2_with fail
        go_ret
        first | exact ⟨⟨false, rfl, fun h => by cases h⟩, rfl⟩ | exact ⟨Or.inl rfl, rfl⟩
    · go_wp2_with fail
      go_ret
      exact ⟨⟨true, rfl, fun _ k hk => HA.out k (by omega)⟩, rfl⟩
/-- the four bad escapes -/
def badS : Nat → ByteArray
  | 1 => ⟨#[92, 117, 49, 50, 103]⟩
  | 2 => ⟨#[92, 117, 123, 125]⟩
  | 3 => ⟨#[92, 117, 123, 49, 103, 125]⟩
  | _ => ⟨#[92, 120, 103]⟩
theorem be22 (b : Int) (m : Nat) (hm : b % 4 = m) (hb : 0 ≤ b) (hb2 : b ≤ 255) (w : World) : Calls Tryd.prog 22 #[.int .u8 b] w fun e w' => e = .returned (.string (badS m)) ∧ w = w' := by
  have ht : b.tmod 4 = (m : Int) := by rw [Int.tmod_eq_emod_of_nonneg hb]; exact hm
  have h4 : m = 0 ∨ m = 1 ∨ m = 2 ∨ m = 3 := by omega
  have t1 : (b.tmod 4 == 1) = (m == 1) := by rw [ht, Bool.eq_iff_iff]; simp; omega
  have t2 : (b.tmod 4 == 2) = (m == 2) := by rw [ht, Bool.eq_iff_iff]; simp; omega
  have t3 : (b.tmod 4 == 3) = (m == 3) := by rw [ht, Bool.eq_iff_iff]; simp; omega
  clear hb hb2 ht hm
  rcases h4 with rfl | rfl | rfl | rfl
  all_goals
    simp only [show ((0 : Nat) == 1) = false from rfl, show ((0 : Nat) == 2) = false from rfl, show ((0 : Nat) == 3) = false from rfl, show ((1 : Nat) == 1) = true from rfl, show ((2 : Nat) == 1) = false from rfl, show ((2 : Nat) == 2) = true from rfl, show ((3 : Nat) == 1) = false from rfl, show ((3 : Nat) == 2) = false from rfl, show ((3 : Nat) == 3) = true from rfl] at t1 t2 t3
    go_enter Tryd.func22, Tryd.ntmps22
    go_wp2_with fail
    go_ret
    exact ⟨rfl, rfl⟩
def openS : Nat → ByteArray
  | 1 => ⟨#[125]⟩
  | 3 => ⟨#[125]⟩
  | _ => ⟨#[96]⟩
def closeS : Nat → ByteArray
  | 2 => ⟨#[36, 123]⟩
  | 3 => ⟨#[36, 123]⟩
  | _ => ⟨#[96]⟩
def tokS : Nat → Int
  | 1 => 9
  | 2 => 7
  | 3 => 8
  | _ => 3
theorem results_tmp3 {fn : Func} {t u v : Tmp} (h : fn.results = #[.tmp t, .tmp u, .tmp v]) (tmps : Array Value) (P : Program) (w : World) :
    (results fn tmps).run P w = .ok (.tuple #[tmps.getD t undef, tmps.getD u undef, tmps.getD v undef]) w := by
  simp [results, h]
theorem tp23 (b : Int) (m : Nat) (hm : b % 4 = m) (hb : 0 ≤ b) (hb2 : b ≤ 255) (w : World) : Calls Tryd.prog 23 #[.int .u8 b] w fun e w' => e = .returned (.tuple #[.string (openS m), .string (closeS m), .int .u8 (tokS m)]) ∧ w = w' := by
  have ht : b.tmod 4 = (m : Int) := by rw [Int.tmod_eq_emod_of_nonneg hb]; exact hm
  have h4 : m = 0 ∨ m = 1 ∨ m = 2 ∨ m = 3 := by omega
  have t1 : (b.tmod 4 == 1) = (m == 1) := by rw [ht, Bool.eq_iff_iff]; simp; omega
  have t2 : (b.tmod 4 == 2) = (m == 2) := by rw [ht, Bool.eq_iff_iff]; simp; omega
  have t3 : (b.tmod 4 == 3) = (m == 3) := by rw [ht, Bool.eq_iff_iff]; simp; omega
  clear hb hb2 ht hm
  rcases h4 with rfl | rfl | rfl | rfl
  all_goals
    simp only [show ((0 : Nat) == 1) = false from rfl, show ((0 : Nat) == 2) = false from rfl, show ((0 : Nat) == 3) = false from rfl, show ((1 : Nat) == 1) = true from rfl, show ((2 : Nat) == 1) = false from rfl, show ((2 : Nat) == 2) = true from rfl, show ((3 : Nat) == 1) = false from rfl, show ((3 : Nat) == 2) = false from rfl, show ((3 : Nat) == 3) = true from rfl] at t1 t2 t3
    go_enter Tryd.func23, Tryd.ntmps23
    go_wp2_with fail
    go_ret3
    exact ⟨rfl, rfl⟩
end Go.Proofs.YtcnembabenlheaaDoor
