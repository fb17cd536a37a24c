/-
  The walks of FnIsIdentifierOrKeywordCaseTable and FnIsNameStartAgreesWithContinue.
-/
import Derived.Test.YtnhefnccjlbeiaaB1
namespace Go.Proofs.Ytnhefnccjlbeiaa
open Go.ChangeShapes Go.WideShapes Go.ChangeAt Go.RowKit
set_option linter.unusedVariables false
noncomputable def tokCells (t : Int) : Array Value := (Try.prog.built 112 [(31, .int .u8 2), (32, .int .u8 t), (19, .int .i64 0), (20, .int .i64 0)]).getD #[]
theorem tok_14 (t : Int) : (tokCells t)[14]? = some (.string ⟨#[]⟩) := by kernel_rfl
theorem tok_69 (t : Int) : (tokCells t)[69]? = some (.int .u8 t) := by kernel_rfl
theorem newtok (t : Int) (w : World) : Calls Try.prog 15 #[.string ⟨#[]⟩, .int .i64 0, .int .i64 0, .int .u8 t] w fun e w' => e = .returned (.pointer (some ⟨w.heap.size, 0, none⟩)) ∧ w'.cell? ⟨w.heap.size, 69, none⟩ = some (.int .u8 t) ∧ Below w.heap.size w w' := by
  have h14 : (w.alloc (.cells (tokCells t) 112)).cell? ⟨w.heap.size, 14, none⟩ = some (.string ⟨#[]⟩) := by rw [cell_alloc_last, tok_14]
  have h69 : (w.alloc (.cells (tokCells t) 112)).cell? ⟨w.heap.size, 69, none⟩ = some (.int .u8 t) := by rw [cell_alloc_last, tok_69]
  have hb : Below w.heap.size w (w.alloc (.cells (tokCells t) 112)) := (Below.refl _ _).alloc (Nat.le_refl _) _
  go_enter Try.func15, Try.ntmps15
  go_wp2_with (first | (refine wpList_buildTo rfl 112 #[(31, .const (.int .u8 2)), (32, .tmp 10), (19, .tmp 11), (20, .tmp 12)] rfl (some 13) rfl (tokCells t) (by kernel_rfl) ?_))
  go_ret
  refine ⟨rfl, ?_, (Below.refl _ _).alloc (Nat.le_refl _) _⟩
  rw [cell_alloc_last, Array.getElem?_setIfInBounds_ne (by omega), tok_69]
theorem isw_any (g : Nat) (t : Int) (w : World) (h : w.cell? ⟨g, 69, none⟩ = some (.int .u8 t)) : Calls Try.prog 16 #[.pointer (some ⟨g, 0, none⟩)] w fun e w' => e = .returned (.bool (decide (69 ≤ t))) ∧ w = w' := by
  by_cases h0 : 69 ≤ t
  · go_enter Try.func16, Try.ntmps16; go_wp2; go_ret; exact ⟨ret_bool (by simp [h0]), rfl⟩
  · go_enter Try.func16, Try.ntmps16; go_wp2; go_ret; exact ⟨ret_bool (by simp; omega), rfl⟩
theorem word_any (t : Int) (w : World) : Calls Try.prog 17 #[.int .u8 t] w fun e w' => e = .returned (.bool (decide (69 ≤ t ∧ t ≤ 106))) ∧ w = w' := by
  by_cases h0 : t < 69
  · go_enter Try.func17, Try.ntmps17; go_wp2; go_ret; exact ⟨ret_bool (by simp; omega), rfl⟩
  by_cases h1 : 106 < t
  · go_enter Try.func17, Try.ntmps17; go_wp2; go_ret; exact ⟨ret_bool (by simp; omega), rfl⟩
  have hd : decide (69 ≤ t ∧ t ≤ 106) = true := by simp; omega
  rw [hd]
  clear hd
  go_enter Try.func17, Try.ntmps17
  go_wp2
  all_goals
    go_ret
    exact ⟨rfl, rfl⟩
theorem FnIsIdentifierOrKeywordCaseTable_walk (a0 : Int) (w0 : (Lit.int .u8 a0).wf = true) (w : World) :
    Calls Try.prog 3 #[.int .u8 a0] w fun e w' => e = .returned (.bool true) ∧ Below w.heap.size w w' := by
  by_cases h : 106 < a0
  · go_enter Try.func3, Try.ntmps3
    go_wp2
    go_ret
    exact ⟨rfl, Below.refl _ _⟩
  go_enter Try.func3, Try.ntmps3
  go_wp2_with fail
  refine (newtok _ _).mono ?_
  rintro e w1 ⟨rfl, hc, hb⟩
  go_wp2_with fail
  refine (isw_any _ a0 _ hc).mono ?_
  rintro e w2 ⟨rfl, rfl⟩
  go_wp2_with fail
  refine (word_any _ _).mono ?_
  rintro e w2 ⟨rfl, rfl⟩
  go_wp2_with fail
  go_ret
  exact ⟨ret_bool (by first | (simp; done) | (simp; omega)), hb⟩

def nsB (c : Int) : Bool := decide ((97 ≤ c ∧ c ≤ 122) ∨ (65 ≤ c ∧ c ≤ 90) ∨ c = 95 ∨ 128 ≤ c ∨ c = 0)
theorem ns_any (c : Int) (w : World) : Calls Try.prog 20 #[.int .i32 c] w fun e w' => e = .returned (.bool (nsB c)) ∧ w = w' := by
  by_cases h5 : c = 95
  · subst h5; go_enter Try.func20, Try.ntmps20; go_wp2; go_ret; exact ⟨by simp [nsB], rfl⟩
  have h5' : (c == 95) = false := by simp [h5]
  by_cases h6 : c = 0
  · subst h6; go_enter Try.func20, Try.ntmps20; go_wp2; go_ret; exact ⟨by simp [nsB], rfl⟩
  have h6' : (c == 0) = false := by simp [h6]
  by_cases h1 : 97 ≤ c <;> by_cases h2 : c ≤ 122 <;> by_cases h3 : 65 ≤ c <;> by_cases h4 : c ≤ 90 <;> by_cases h7 : 128 ≤ c <;> (try omega) <;> (go_enter Try.func20, Try.ntmps20; go_wp2; go_ret; exact ⟨by simp [nsB, *], rfl⟩)
def ncB (c : Int) : Bool := nsB c || decide ((48 ≤ c ∧ c ≤ 57) ∨ c = 45)
theorem nc_any (c : Int) (w : World) : Calls Try.prog 21 #[.int .i32 c] w fun e w' => e = .returned (.bool (ncB c)) ∧ w = w' := by
  by_cases hn : nsB c = true
  · go_enter Try.func21, Try.ntmps21
    go_wp2_with (go_at_call 20; refine (ns_any _ _).mono ?_; rintro e w' ⟨rfl, rfl⟩)
    go_ret
    exact ⟨by simp [ncB, hn], rfl⟩
  have hn' : nsB c = false := by simpa using hn
  by_cases h5 : c = 45
  · subst h5; go_enter Try.func21, Try.ntmps21
    go_wp2_with (go_at_call 20; refine (ns_any _ _).mono ?_; rintro e w' ⟨rfl, rfl⟩)
    go_ret
    exact ⟨by simp [ncB], rfl⟩
  have h5' : (c == 45) = false := by simp [h5]
  by_cases h1 : 48 ≤ c <;> by_cases h2 : c ≤ 57 <;> (try omega) <;>
    (go_enter Try.func21, Try.ntmps21
     go_wp2_with (go_at_call 20; refine (ns_any _ _).mono ?_; rintro e w' ⟨rfl, rfl⟩)
     go_ret
     exact ⟨by simp [ncB, *], rfl⟩)
abbrev extra : ByteArray := ⟨#[48, 49, 50, 51, 52, 53, 54, 55, 56, 57, 45]⟩
/-- has one of the first k signs of the extra ones been met? -/
def seen (c : Int) (k : Nat) : Bool := (extra.data.toList.take k).any fun b => (b.toNat : Int) == c
theorem seen_succ (c : Int) (k : Nat) (h : k < 11) : seen c (k + 1) = (seen c k || (((extra[k]'h).toNat : Int) == c)) := by
  unfold seen
  rw [List.take_succ_eq_append_getElem (by simpa using h), List.any_append]
  simp [ByteArray.getElem_eq_getElem_data]
theorem seen_all (c : Int) : seen c 11 = decide ((48 ≤ c ∧ c ≤ 57) ∨ c = 45) := by
  unfold seen
  rw [Bool.eq_iff_iff]
  simp
  omega
theorem ext_byte (k : Nat) (h : k < 11) : wrap32 ((extra[k]'h).toNat : Int) = ((extra[k]'h).toNat : Int) := by
  have := (extra[k]'h).toNat_lt
  unfold wrap32; omega
theorem FnIsNameStartAgreesWithContinue_walk (a0 : Int) (w0 : (Lit.int .i32 a0).wf = true) (w : World) :
    Calls Try.prog 5 #[.int .i32 a0] w fun e w' => e = .returned (.bool true) ∧ Below w.heap.size w w' := by
  have hsc : nsB a0 = true → ncB a0 = true := by intro h; simp [ncB, h]
  have hfin : (ncB a0 && !nsB a0) = seen a0 11 := by
    rw [seen_all, Bool.eq_iff_iff]
    simp [ncB, nsB]
    omega
  generalize hs : nsB a0 = s at *
  generalize hc : ncB a0 = c at *
  have HS := Lib.hid hs; have HC := Lib.hid hc; have HF := Lib.hid hfin
  clear hs hc hfin
  cases s <;> cases c <;> (try simp at hsc) <;>
   (go_enter Try.func5, Try.ntmps5
    go_wp2_with (first | (go_at_call 21; refine (nc_any _ _).mono ?_; rw [HC.out]; rintro e w' ⟨rfl, rfl⟩) | (go_at_call 20; refine (ns_any _ _).mono ?_; rw [HS.out]; rintro e w' ⟨rfl, rfl⟩))
    go_loop [5, 6] (fun b i => ∃ k : Nat, k ≤ 11 ∧ i = .int .i64 k ∧ b = .bool (seen a0 k)) (fun _ i => 11 - (intOf i).toNat)
    case atStart => exact ⟨0, by omega, rfl, rfl⟩
    case round =>
      obtain ⟨k, hk, rfl, rfl⟩ := hrel
      by_cases hlt : k < 11
      · have HE := Lib.hid (seen_succ a0 k hlt)
        have hb := ext_byte k hlt
        by_cases he : (((extra[k]'hlt).toNat : Int) == a0) = true
        · go_wp2
          go_round
          case rel => exact ⟨k + 1, by omega, by go_num, by rw [HE.out, he]; simp⟩
          case measure => simp [intOf]; omega
        · have he' : (((extra[k]'hlt).toNat : Int) == a0) = false := by simpa using he
          go_wp2
          go_round
          case rel => exact ⟨k + 1, by omega, by go_num, by rw [HE.out, he']; simp⟩
          case measure => simp [intOf]; omega
      · obtain rfl : k = 11 := by omega
        go_wp2
        go_ret
        exact ⟨ret_bool (by rw [← HF.out]; rfl), Below.refl _ _⟩)
