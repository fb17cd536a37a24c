/-
  Contracts of the small predicates of the seat: each returns the plain Bool function beside it and leaves the world as it was.
-/
import Derived.Test.YtkhedaaaimnikaaRows
import Derived.WalkKit
import Derived.ProofKit
import Derived.OpenShut
import Derived.Lib.Hide
namespace Go.Proofs.Ytkhedaaaimnikaa
open Go.ChangeShapes Go.WideShapes Go.ChangeAt Go.RowKit

theorem ret_bool {a b : Bool} (h : a = b) : Ending.returned (.bool a) = .returned (.bool b) := by rw [h]
theorem ret_int {k : IntKind} {a b : Int} (h : a = b) : Ending.returned (.int k a) = .returned (.int k b) := by rw [h]

def letB (c : Int) : Bool := decide ((97 ≤ c ∧ c ≤ 122) ∨ (65 ≤ c ∧ c ≤ 90))
theorem let_any (c : Int) (w : World) : Calls Try.prog 32 #[.int .u8 c] w fun e w' => e = .returned (.bool (letB c)) ∧ w = w' := by
  by_cases h1 : 97 ≤ c <;> by_cases h2 : c ≤ 122 <;> by_cases h3 : 65 ≤ c <;> by_cases h4 : c ≤ 90 <;> (try omega) <;> (go_enter Try.func32, Try.ntmps32; go_wp2; go_ret; exact ⟨by simp [letB, *], rfl⟩)
theorem zlet_any (c : Int) (w : World) : Calls Try.prog 14 #[.int .u8 c] w fun e w' => e = .returned (.bool (letB c)) ∧ w = w' := by
  go_enter Try.func14, Try.ntmps14
  go_wp2_with (go_at_call 32; refine (let_any _ _).mono ?_; rintro e w' ⟨rfl, rfl⟩)
  go_ret
  exact ⟨rfl, rfl⟩
def upB (c : Int) : Bool := decide (65 ≤ c ∧ c ≤ 90)
theorem up_any (c : Int) (w : World) : Calls Try.prog 33 #[.int .u8 c] w fun e w' => e = .returned (.bool (upB c)) ∧ w = w' := by
  by_cases h3 : 65 ≤ c <;> by_cases h4 : c ≤ 90 <;> (try omega) <;> (go_enter Try.func33, Try.ntmps33; go_wp2; go_ret; exact ⟨by simp [upB, *], rfl⟩)
theorem zup_any (c : Int) (w : World) : Calls Try.prog 16 #[.int .u8 c] w fun e w' => e = .returned (.bool (upB c)) ∧ w = w' := by
  go_enter Try.func16, Try.ntmps16
  go_wp2_with (go_at_call 33; refine (up_any _ _).mono ?_; rintro e w' ⟨rfl, rfl⟩)
  go_ret
  exact ⟨rfl, rfl⟩

def memB (c : Int) (s : ByteArray) : Bool := s.data.toList.any fun b => (b.toNat : Int) == c
theorem memB_true (c : Int) (s : ByteArray) (k : Nat) (hk : k < s.size) (h : ((s[k].toNat : Int) == c) = true) : memB c s = true := by
  unfold memB; rw [List.any_eq_true]; exact ⟨s[k], by simp [ByteArray.getElem_eq_getElem_data], h⟩
theorem memB_false (c : Int) (s : ByteArray) (h : ∀ j, (hs : j < s.size) → (((s[j]).toNat : Int) == c) = false) : memB c s = false := by
  unfold memB; rw [List.any_eq_false]; intro b hb
  obtain ⟨i, hi, rfl⟩ := List.getElem_of_mem hb
  have := h i (by simpa using hi)
  simpa [ByteArray.getElem_eq_getElem_data] using this
theorem in_any (c : Int) (s : ByteArray) (w : World) (hs : s.size ≤ maxLen) :
    Calls Try.prog 15 #[.int .u8 c, .string s] w fun e w' => e = .returned (.bool (memB c s)) ∧ w = w' := by
  unfold maxLen at hs
  go_enter Try.func15, Try.ntmps15
  go_wp2
  go_loop [5] (fun i => ∃ k : Nat, k ≤ s.size ∧ i = .int .i64 k ∧ Hid (∀ j, (h : j < k) → (hs : j < s.size) → (((s[j]).toNat : Int) == c) = false)) (fun i => s.size - (intOf i).toNat)
  case atStart => exact ⟨0, Nat.zero_le _, rfl, fun j h => by omega⟩
  case round =>
    obtain ⟨k, hk, rfl, H⟩ := hrel
    go_wp2
    · have hk : k < s.size := by assumption
      have h : (↑s[k].toNat == c) = true := by assumption
      go_ret
      exact ⟨ret_bool (memB_true c s k hk h).symm, rfl⟩
    · have hk : k < s.size := by assumption
      have h : (↑s[k].toNat == c) = false := by assumption
      go_round
      case rel => exact ⟨k + 1, by omega, by go_num, fun j h1 h2 => by
                    rcases Nat.lt_succ_iff_lt_or_eq.1 h1 with h3 | rfl
                    · exact H j h3 h2
                    · exact h⟩
      case measure => simp [intOf]; omega
    · go_ret
      exact ⟨ret_bool (memB_false c s fun j hj => H j (by omega) hj).symm, rfl⟩
theorem alpha_all : ∀ n : Fin 256, letB n.val = memB n.val ⟨#[97, 98, 99, 100, 101, 102, 103, 104, 105, 106, 107, 108, 109, 110, 111, 112, 113, 114, 115, 116, 117, 118, 119, 120, 121, 122, 65, 66, 67, 68, 69, 70, 71, 72, 73, 74, 75, 76, 77, 78, 79, 80, 81, 82, 83, 84, 85, 86, 87, 88, 89, 90]⟩ := by decide +kernel

/-! css_lexer -/
def npB (c : Int) : Bool := decide (c ≤ 8 ∨ c = 11 ∨ (14 ≤ c ∧ c ≤ 31) ∨ c = 127)
theorem np_any (c : Int) (w : World) : Calls Try.prog 34 #[.int .i32 c] w fun e w' => e = .returned (.bool (npB c)) ∧ w = w' := by
  by_cases h1 : c ≤ 8
  · go_enter Try.func34, Try.ntmps34; go_wp2; go_ret; exact ⟨by simp [npB, *], rfl⟩
  by_cases h2 : c = 11
  · subst h2; go_enter Try.func34, Try.ntmps34; go_wp2; go_ret; exact ⟨by simp [npB], rfl⟩
  have h2' : (c == 11) = false := by simp [h2]
  by_cases h5 : c = 127
  · subst h5; go_enter Try.func34, Try.ntmps34; go_wp2; go_ret; exact ⟨by simp [npB], rfl⟩
  have h5' : (c == 127) = false := by simp [h5]
  by_cases h3 : 14 ≤ c <;> by_cases h4 : c ≤ 31 <;> (try omega) <;> (go_enter Try.func34, Try.ntmps34; go_wp2; go_ret; exact ⟨by simp [npB, *], rfl⟩)
theorem znp_any (c : Int) (w : World) : Calls Try.prog 17 #[.int .i32 c] w fun e w' => e = .returned (.bool (npB c)) ∧ w = w' := by
  go_enter Try.func17, Try.ntmps17
  go_wp2_with (go_at_call 34; refine (np_any _ _).mono ?_; rintro e w' ⟨rfl, rfl⟩)
  go_ret
  exact ⟨rfl, rfl⟩
def nlB (c : Int) : Bool := decide (c = 10 ∨ c = 13 ∨ c = 12)
theorem nl_any (c : Int) (w : World) : Calls Try.prog 35 #[.int .i32 c] w fun e w' => e = .returned (.bool (nlB c)) ∧ w = w' := by
  by_cases h1 : c = 10
  · subst h1; go_enter Try.func35, Try.ntmps35; go_wp2; go_ret; exact ⟨by simp [nlB], rfl⟩
  by_cases h2 : c = 13
  · subst h2; go_enter Try.func35, Try.ntmps35; go_wp2; go_ret; exact ⟨by simp [nlB], rfl⟩
  by_cases h3 : c = 12
  · subst h3; go_enter Try.func35, Try.ntmps35; go_wp2; go_ret; exact ⟨by simp [nlB], rfl⟩
  have h1' : (c == 10) = false := by simp [h1]
  have h2' : (c == 13) = false := by simp [h2]
  have h3' : (c == 12) = false := by simp [h3]
  go_enter Try.func35, Try.ntmps35; go_wp2; go_ret; exact ⟨by simp [nlB, *], rfl⟩
theorem znl_any (c : Int) (w : World) : Calls Try.prog 19 #[.int .i32 c] w fun e w' => e = .returned (.bool (nlB c)) ∧ w = w' := by
  go_enter Try.func19, Try.ntmps19
  go_wp2_with (go_at_call 35; refine (nl_any _ _).mono ?_; rintro e w' ⟨rfl, rfl⟩)
  go_ret
  exact ⟨rfl, rfl⟩
def wsB (c : Int) : Bool := decide (c = 32 ∨ c = 9 ∨ c = 10 ∨ c = 13 ∨ c = 12)
theorem ws_any (c : Int) (w : World) : Calls Try.prog 36 #[.int .i32 c] w fun e w' => e = .returned (.bool (wsB c)) ∧ w = w' := by
  by_cases h1 : c = 10
  · subst h1; go_enter Try.func36, Try.ntmps36; go_wp2; go_ret; exact ⟨by simp [wsB], rfl⟩
  by_cases h2 : c = 13
  · subst h2; go_enter Try.func36, Try.ntmps36; go_wp2; go_ret; exact ⟨by simp [wsB], rfl⟩
  by_cases h3 : c = 12
  · subst h3; go_enter Try.func36, Try.ntmps36; go_wp2; go_ret; exact ⟨by simp [wsB], rfl⟩
  by_cases h4 : c = 32
  · subst h4; go_enter Try.func36, Try.ntmps36; go_wp2; go_ret; exact ⟨by simp [wsB], rfl⟩
  by_cases h5 : c = 9
  · subst h5; go_enter Try.func36, Try.ntmps36; go_wp2; go_ret; exact ⟨by simp [wsB], rfl⟩
  have h1' : (c == 10) = false := by simp [h1]
  have h2' : (c == 13) = false := by simp [h2]
  have h3' : (c == 12) = false := by simp [h3]
  have h4' : (c == 32) = false := by simp [h4]
  have h5' : (c == 9) = false := by simp [h5]
  go_enter Try.func36, Try.ntmps36; go_wp2; go_ret; exact ⟨by simp [wsB, *], rfl⟩
theorem zws_any (c : Int) (w : World) : Calls Try.prog 20 #[.int .i32 c] w fun e w' => e = .returned (.bool (wsB c)) ∧ w = w' := by
  go_enter Try.func20, Try.ntmps20
  go_wp2_with (go_at_call 36; refine (ws_any _ _).mono ?_; rintro e w' ⟨rfl, rfl⟩)
  go_ret
  exact ⟨rfl, rfl⟩
def nsB (c : Int) : Bool := decide ((97 ≤ c ∧ c ≤ 122) ∨ (65 ≤ c ∧ c ≤ 90) ∨ c = 95 ∨ 128 ≤ c ∨ c = 0)
theorem ns_any (c : Int) (w : World) : Calls Try.prog 30 #[.int .i32 c] w fun e w' => e = .returned (.bool (nsB c)) ∧ w = w' := by
  by_cases h5 : c = 95
  · subst h5; go_enter Try.func30, Try.ntmps30; go_wp2; go_ret; exact ⟨by simp [nsB], rfl⟩
  have h5' : (c == 95) = false := by simp [h5]
  by_cases h6 : c = 0
  · subst h6; go_enter Try.func30, Try.ntmps30; go_wp2; go_ret; exact ⟨by simp [nsB], rfl⟩
  have h6' : (c == 0) = false := by simp [h6]
  by_cases h1 : 97 ≤ c <;> by_cases h2 : c ≤ 122 <;> by_cases h3 : 65 ≤ c <;> by_cases h4 : c ≤ 90 <;> by_cases h7 : 128 ≤ c <;> (try omega) <;> (go_enter Try.func30, Try.ntmps30; go_wp2; go_ret; exact ⟨by simp [nsB, *], rfl⟩)
def ncB (c : Int) : Bool := nsB c || decide ((48 ≤ c ∧ c ≤ 57) ∨ c = 45)
theorem nc_any (c : Int) (w : World) : Calls Try.prog 21 #[.int .i32 c] w fun e w' => e = .returned (.bool (ncB c)) ∧ w = w' := by
  by_cases hn : nsB c = true
  · go_enter Try.func21, Try.ntmps21
    go_wp2_with (go_at_call 30; refine (ns_any _ _).mono ?_; rintro e w' ⟨rfl, rfl⟩)
    go_ret
    exact ⟨by simp [ncB, hn], rfl⟩
  have hn' : nsB c = false := by simpa using hn
  by_cases h5 : c = 45
  · subst h5; go_enter Try.func21, Try.ntmps21
    go_wp2_with (go_at_call 30; refine (ns_any _ _).mono ?_; rintro e w' ⟨rfl, rfl⟩)
    go_ret
    exact ⟨by simp [ncB], rfl⟩
  have h5' : (c == 45) = false := by simp [h5]
  by_cases h1 : 48 ≤ c <;> by_cases h2 : c ≤ 57 <;> (try omega) <;>
    (go_enter Try.func21, Try.ntmps21
     go_wp2_with (go_at_call 30; refine (ns_any _ _).mono ?_; rintro e w' ⟨rfl, rfl⟩)
     go_ret
     exact ⟨by simp [ncB, *], rfl⟩)
