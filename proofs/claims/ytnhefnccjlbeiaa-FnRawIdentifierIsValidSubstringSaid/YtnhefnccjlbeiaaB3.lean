/-
  The walks of the n011_213 laws: Raw, Loc, Range, rawIdentifier.
-/
import Derived.Test.YtnhefnccjlbeiaaB1
namespace Go.Proofs.Ytnhefnccjlbeiaa
open Go.ChangeShapes Go.WideShapes Go.ChangeAt Go.RowKit
set_option linter.unusedVariables false

theorem below_new {B : Nat} (w : World) (o : Obj) (n : Nat) (h : B ≤ w.heap.size) : Below B w ((w.alloc o).drewN n) := by
  have b0 : Below B w (w.alloc o) := (Below.refl _ _).alloc h _
  exact ⟨b0.os, b0.tape, b0.output, b0.size, b0.block⟩
theorem FnRawConcatenatesAcrossSplit_walk (a0 : ByteArray) (a1 : Int) (a2 : Int) (a3 : Int) (w0 : a0.size ≤ maxLen) (w1 : (Lit.int .i64 a1).wf = true) (w2 : (Lit.int .i64 a2).wf = true) (w3 : (Lit.int .i64 a3).wf = true) (w : World) :
    Calls Try.prog 7 #[.string a0, .int .i64 a1, .int .i64 a2, .int .i64 a3] w fun e w' => e = .returned (.bool true) ∧ Below w.heap.size w w' := by
  have hm := w0
  unfold maxLen at hm
  by_cases hs : a0.size ≤ 1048576
  · by_cases c1 : a1 < 0
    · go_enter Try.func7, Try.ntmps7
      go_wp2; go_ret; exact ⟨rfl, Below.refl _ _⟩
    by_cases c2 : a2 < a1
    · go_enter Try.func7, Try.ntmps7
      go_wp2; go_ret; exact ⟨rfl, Below.refl _ _⟩
    by_cases c3 : a3 < a2
    · go_enter Try.func7, Try.ntmps7
      go_wp2; go_ret; exact ⟨rfl, Below.refl _ _⟩
    by_cases c4 : (a0.size : Int) < a3
    · go_enter Try.func7, Try.ntmps7
      go_wp2; go_ret; exact ⟨rfl, Below.refl _ _⟩
    obtain ⟨a, rfl⟩ := Int.eq_ofNat_of_zero_le (by omega : 0 ≤ a1)
    obtain ⟨m, rfl⟩ := Int.eq_ofNat_of_zero_le (by omega : 0 ≤ a2)
    obtain ⟨b, rfl⟩ := Int.eq_ofNat_of_zero_le (by omega : 0 ≤ a3)
    go_enter Try.func7, Try.ntmps7
    go_wp2_with (first | (go_at_call 23; go_in))
    have hbel := Below.refl w.heap.size w
    have e1 : (!(a0.extract (min a m) (max m b)).toList == (a0.extract a b).toList) = false := by rw [Nat.min_eq_left (by omega), Nat.max_eq_right (by omega)]; simp
    refine (newlex _ _ _ _).mono ?_
    rintro e w1' ⟨rfl, rfl⟩
    go_wp2_with fail
    refine (raw_any _ _ a0 a m (Lx.new w _ _ _) (by omega) (by omega) w0).mono ?_
    rintro e w1'' ⟨rfl, n1, rfl⟩
    replace hbel := hbel.trans (below_new w (.cells (lexCells a0 (a : Nat) (m : Nat)) 112) n1 hbel.size)
    generalize (World.alloc w (.cells (lexCells a0 (a : Nat) (m : Nat)) 112)).drewN n1 = W1 at *
    go_wp2_with fail
    refine (newlex _ _ _ _).mono ?_
    rintro e w2' ⟨rfl, rfl⟩
    go_wp2_with fail
    refine (raw_any _ _ a0 m b (Lx.new W1 _ _ _) (by omega) (by omega) w0).mono ?_
    rintro e w2'' ⟨rfl, n2, rfl⟩
    replace hbel := hbel.trans (below_new W1 (.cells (lexCells a0 (m : Nat) (b : Nat)) 112) n2 hbel.size)
    generalize (World.alloc W1 (.cells (lexCells a0 (m : Nat) (b : Nat)) 112)).drewN n2 = W2 at *
    go_wp2_with fail
    refine (newlex _ _ _ _).mono ?_
    rintro e w3' ⟨rfl, rfl⟩
    go_wp2_with fail
    refine (raw_any _ _ a0 a b (Lx.new W2 _ _ _) (by omega) (by omega) w0).mono ?_
    rintro e w3'' ⟨rfl, n3, rfl⟩
    replace hbel := hbel.trans (below_new W2 (.cells (lexCells a0 (a : Nat) (b : Nat)) 112) n3 hbel.size)
    generalize (World.alloc W2 (.cells (lexCells a0 (a : Nat) (b : Nat)) 112)).drewN n3 = W3 at *
    go_wp2_with fail
    refine (newlex _ _ _ _).mono ?_
    rintro e w4' ⟨rfl, rfl⟩
    go_wp2_with fail
    refine (raw_any _ _ a0 m m (Lx.new W3 _ _ _) (by omega) (by omega) w0).mono ?_
    rintro e w4'' ⟨rfl, n4, rfl⟩
    replace hbel := hbel.trans (below_new W3 (.cells (lexCells a0 (m : Nat) (m : Nat)) 112) n4 hbel.size)
    generalize (World.alloc W3 (.cells (lexCells a0 (m : Nat) (m : Nat)) 112)).drewN n4 = W4 at *
    go_wp2_with fail
    refine (newlex _ _ _ _).mono ?_
    rintro e w5' ⟨rfl, rfl⟩
    go_wp2_with fail
    refine (raw_any _ _ a0 0 a0.size (Lx.new W4 a0 0 a0.size) (by omega) (by omega) w0).mono ?_
    rintro e w5'' ⟨rfl, n5, rfl⟩
    replace hbel := hbel.trans (below_new W4 (.cells (lexCells a0 0 a0.size) 112) n5 hbel.size)
    have e2 : a0.extract 0 a0.size = a0 := by simp
    rw [e2]
    generalize (World.alloc W4 (.cells (lexCells a0 0 a0.size) 112)).drewN n5 = W5 at *
    go_wp2_with fail
    go_ret
    exact ⟨ret_bool (by simp), hbel⟩
  · go_enter Try.func7, Try.ntmps7
    go_wp2; go_ret; exact ⟨rfl, Below.refl _ _⟩
