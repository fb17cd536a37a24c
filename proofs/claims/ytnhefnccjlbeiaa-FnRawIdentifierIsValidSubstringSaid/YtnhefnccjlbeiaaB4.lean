/-
  The walks of the n011_213 laws: Loc and Range.
-/
import Derived.Test.YtnhefnccjlbeiaaB3
namespace Go.Proofs.Ytnhefnccjlbeiaa
open Go.ChangeShapes Go.WideShapes Go.ChangeAt Go.RowKit
set_option linter.unusedVariables false
theorem below_drewN {B : Nat} {a w : World} (h : Below B a w) (n : Nat) : Below B a (w.drewN n) := ⟨h.os, h.tape, h.output, h.size, h.block⟩
theorem field55 (x : Int) (w : World) : (Instr.field 55 (.agg #[.int .i32 x]) 0).run Try.prog w = .ok (.int .i32 x) w := by kernel_rfl
theorem Lx.keep' {w w' : World} {g : Nat} {s : ByteArray} {a b : Int} (h : Lx w g s a b) (hb : Below w.heap.size w w') (hg : g < w.heap.size) : Lx w' g s a b := h.keep _ hb hg

set_option maxRecDepth 100000 in
theorem FnLocMonotoneInStart_walk (a0 : ByteArray) (a1 : Int) (a2 : Int) (a3 : Int) (a4 : Int) (w0 : a0.size ≤ maxLen) (w1 : (Lit.int .i64 a1).wf = true) (w2 : (Lit.int .i64 a2).wf = true) (w3 : (Lit.int .i64 a3).wf = true) (w4 : (Lit.int .i64 a4).wf = true) (w : World) :
    Calls Try.prog 9 #[.string a0, .int .i64 a1, .int .i64 a2, .int .i64 a3, .int .i64 a4] w fun e w' => e = .returned (.bool true) ∧ Below w.heap.size w w' := by
  have hm := w0
  unfold maxLen at hm
  by_cases hs : a0.size ≤ 1048576
  · by_cases c1 : a1 < 0
    · go_enter Try.func9, Try.ntmps9
      go_wp2; go_ret; exact ⟨rfl, Below.refl _ _⟩
    by_cases c2 : a2 < a1
    · go_enter Try.func9, Try.ntmps9
      go_wp2; go_ret; exact ⟨rfl, Below.refl _ _⟩
    by_cases c4 : (a0.size : Int) < a2
    · go_enter Try.func9, Try.ntmps9
      go_wp2; go_ret; exact ⟨rfl, Below.refl _ _⟩
    by_cases d1 : a3 < 0
    · go_enter Try.func9, Try.ntmps9
      go_wp2; go_ret; exact ⟨rfl, Below.refl _ _⟩
    by_cases d2 : a4 < a3
    · go_enter Try.func9, Try.ntmps9
      go_wp2; go_ret; exact ⟨rfl, Below.refl _ _⟩
    by_cases d4 : (a0.size : Int) < a4
    · go_enter Try.func9, Try.ntmps9
      go_wp2; go_ret; exact ⟨rfl, Below.refl _ _⟩
    obtain ⟨a, rfl⟩ := Int.eq_ofNat_of_zero_le (by omega : 0 ≤ a1)
    obtain ⟨b, rfl⟩ := Int.eq_ofNat_of_zero_le (by omega : 0 ≤ a2)
    obtain ⟨c, rfl⟩ := Int.eq_ofNat_of_zero_le (by omega : 0 ≤ a3)
    obtain ⟨d, rfl⟩ := Int.eq_ofNat_of_zero_le (by omega : 0 ≤ a4)
    have hf := field55
    go_enter Try.func9, Try.ntmps9
    go_wp2_with (first | (go_at_call 29; go_in))
    refine (newlex _ _ _ _).mono ?_
    rintro e w1' ⟨rfl, rfl⟩
    have hbel : Below w.heap.size w (w.alloc (.cells (lexCells a0 (a : Nat) (b : Nat)) 112)) := (Below.refl _ _).alloc (Nat.le_refl _) _
    have l1 := Lx.new w a0 (a : Nat) (b : Nat)
    have g1 : w.heap.size < (w.alloc (.cells (lexCells a0 (a : Nat) (b : Nat)) 112)).heap.size := by simp
    generalize w.alloc (.cells (lexCells a0 (a : Nat) (b : Nat)) 112) = W1 at *
    go_wp2_with fail
    refine (newlex _ _ _ _).mono ?_
    rintro e w1' ⟨rfl, rfl⟩
    have hb2 : Below W1.heap.size W1 (W1.alloc (.cells (lexCells a0 (c : Nat) (d : Nat)) 112)) := (Below.refl _ _).alloc (Nat.le_refl _) _
    have l2 := Lx.new W1 a0 (c : Nat) (d : Nat)
    have g2 : W1.heap.size < (W1.alloc (.cells (lexCells a0 (c : Nat) (d : Nat)) 112)).heap.size := by simp
    replace l1 := l1.keep' hb2 g1
    replace hbel := hbel.trans (hb2.mono hbel.size)
    replace g1 := Nat.lt_of_lt_of_le g1 hb2.size
    generalize W1.alloc (.cells (lexCells a0 (c : Nat) (d : Nat)) 112) = W2 at *
    clear hb2
    go_wp2_with fail
    refine (loc_any _ _ a0 a b l1 (by omega) g1).mono ?_
    rintro e w3' ⟨rfl, hb3⟩
    replace l2 := l2.keep' hb3 g2
    replace g2 := Nat.lt_of_lt_of_le g2 hb3.size
    replace hbel := hbel.trans (hb3.mono (by have := hbel.size; omega))
    clear hb3 l1 g1
    go_wp2_with fail
    refine (loc_any _ _ a0 c d l2 (by omega) g2).mono ?_
    rintro e w4' ⟨rfl, hb4⟩
    replace hbel := hbel.trans (hb4.mono (by have := hbel.size; omega))
    clear hb4 l2 g2
    go_wp2_with fail
    go_ret
    exact ⟨ret_bool (by simp), hbel⟩
  · go_enter Try.func9, Try.ntmps9
    go_wp2; go_ret; exact ⟨rfl, Below.refl _ _⟩

set_option maxRecDepth 100000 in
theorem FnRangeSpansRaw_walk (a0 : ByteArray) (a1 : Int) (a2 : Int) (w0 : a0.size ≤ maxLen) (w1 : (Lit.int .i64 a1).wf = true) (w2 : (Lit.int .i64 a2).wf = true) (w : World) :
    Calls Try.prog 12 #[.string a0, .int .i64 a1, .int .i64 a2] w fun e w' => e = .returned (.bool true) ∧ Below w.heap.size w w' := by
  have hm := w0
  unfold maxLen at hm
  by_cases hs : a0.size ≤ 1048576
  · by_cases c1 : a1 < 0
    · go_enter Try.func12, Try.ntmps12
      go_wp2; go_ret; exact ⟨rfl, Below.refl _ _⟩
    by_cases c2 : a2 < a1
    · go_enter Try.func12, Try.ntmps12
      go_wp2; go_ret; exact ⟨rfl, Below.refl _ _⟩
    by_cases c4 : (a0.size : Int) < a2
    · go_enter Try.func12, Try.ntmps12
      go_wp2; go_ret; exact ⟨rfl, Below.refl _ _⟩
    obtain ⟨a, rfl⟩ := Int.eq_ofNat_of_zero_le (by omega : 0 ≤ a1)
    obtain ⟨b, rfl⟩ := Int.eq_ofNat_of_zero_le (by omega : 0 ≤ a2)
    go_enter Try.func12, Try.ntmps12
    go_wp2_with (first | (go_at_call 37; go_in))
    refine (newlex _ _ _ _).mono ?_
    rintro e w1' ⟨rfl, rfl⟩
    have hbel : Below w.heap.size w (w.alloc (.cells (lexCells a0 (a : Nat) (b : Nat)) 112)) := (Below.refl _ _).alloc (Nat.le_refl _) _
    have l1 := Lx.new w a0 (a : Nat) (b : Nat)
    have g1 : w.heap.size < (w.alloc (.cells (lexCells a0 (a : Nat) (b : Nat)) 112)).heap.size := by simp
    generalize w.alloc (.cells (lexCells a0 (a : Nat) (b : Nat)) 112) = W1 at *
    go_wp2_with fail
    refine (range_any _ _ a0 a b l1 (by omega) (by omega) g1).mono ?_
    rintro e w3' ⟨rfl, hb3⟩
    replace l1 := l1.keep' hb3 g1
    replace g1 := Nat.lt_of_lt_of_le g1 hb3.size
    replace hbel := hbel.trans (hb3.mono (by have := hbel.size; omega))
    clear hb3
    go_wp2_with fail
    have hb4 : Below w3'.heap.size w3' (w3'.alloc (.cells #[.int .i32 (a : Int), .int .i32 ((b : Int) - a)] 76)) := (Below.refl _ _).alloc (Nat.le_refl _) _
    replace l1 := l1.keep' hb4 g1
    replace g1 := Nat.lt_of_lt_of_le g1 hb4.size
    replace hbel := hbel.trans (hb4.mono (by have := hbel.size; omega))
    generalize w3'.alloc (.cells #[.int .i32 (a : Int), .int .i32 ((b : Int) - a)] 76) = W4 at *
    refine (raw_any _ _ a0 a b l1 (by omega) (by omega) w0).mono ?_
    rintro e w5'' ⟨rfl, n5, rfl⟩
    have hsz : (a0.extract a b).size = b - a := by simp; omega
    have i1 : ((b : Int) - a != ((b - a : Nat) : Int)) = false := by simp; omega
    have i2 : (a : Int) + ((b : Int) - a) = b := by omega
    go_wp2_with fail
    go_ret
    exact ⟨rfl, below_drewN hbel _⟩
  · go_enter Try.func12, Try.ntmps12
    go_wp2; go_ret; exact ⟨rfl, Below.refl _ _⟩
