/-
  The walk of FnUnionMaxIsLeastUpperBound.
-/
import Derived.Test.YtkhedaaaimnikaaU1
import Derived.Deep.QuietTactic
import Derived.Deep.Draws
import Derived.BigQuiet
namespace Go.Proofs.Ytkhedaaaimnikaa
open Go.ChangeShapes Go.WideShapes Go.ChangeAt Go.RowKit
set_option linter.unusedVariables false
theorem list4 {α : Type} (l : List α) (h : l.length = 4) : ∃ a b c d, l = [a, b, c, d] := by
  match l, h with
  | [a, b, c, d], _ => exact ⟨a, b, c, d, rfl⟩
theorem row_at (w : World) (g : Nat) (t : TypeId) (k : IntKind) (zs : List Int) (hg : w.heap.size = g) : (w.alloc (.cells (arrV k zs) t)).rowIs g t zs.length (fun i => .int k (zs.getD i 0)) := hg ▸ row_alloc w t k zs
theorem row_by {w w' : World} {g r : Nat} {t : TypeId} {n : Nat} {f : Nat → Value} (h : w.rowIs g t n f) (k : w.grownBy w' (some r)) (hne : g ≠ r) : w'.rowIs g t n f := h.of_block (k.block g h.lt (fun e => hne (by injection e)))
theorem row_more {w : World} {g : Nat} {t : TypeId} {n : Nat} {f : Nat → Value} (h : w.rowIs g t n f) (o : Obj) : (w.alloc o).rowIs g t n f := h.of_block (Below.heap_alloc w o g h.lt)
theorem below_drewN {B : Nat} {a w : World} (h : Below B a w) (n : Nat) : Below B a (w.drewN n) := ⟨h.os, h.tape, h.output, h.size, h.block⟩
theorem FnUnionMaxIsLeastUpperBound_walk (a0 : List Int) (a1 : List Int) (w0 : IsArr .u32 4 a0) (w1 : IsArr .u32 4 a1) (w : World) :
    Calls Try.prog 11 #[.agg (arrV .u32 a0), .agg (arrV .u32 a1)] w fun e w' => e = .returned (.bool true) ∧ Below w.heap.size w w' := by
  obtain ⟨p, q, r, s, rfl⟩ := list4 a0 w0.1
  obtain ⟨p', q', r', s', rfl⟩ := list4 a1 w1.1
  clear w0 w1
  have r1 := row_at w w.heap.size 32 .u32 [p, q, r, s] rfl
  have r2 := row_at (w.alloc (.cells (arrV .u32 [p, q, r, s]) 32)) (w.heap.size + 1) 32 .u32 [p', q', r', s'] (by simp)
  have r3 := row_at ((w.alloc (.cells (arrV .u32 [p, q, r, s]) 32)).alloc (.cells (arrV .u32 [p', q', r', s']) 32)) (w.heap.size + 1 + 1) 33 .u32 [p, q, r, s] (by simp)
  have r1' := row_more (row_more r1 (.cells (arrV .u32 [p', q', r', s']) 32)) (.cells (arrV .u32 [p, q, r, s]) 33)
  have r2' := row_more r2 (.cells (arrV .u32 [p, q, r, s]) 33)
  have b0 : Below w.heap.size w (((w.alloc (.cells (arrV .u32 [p, q, r, s]) 32)).alloc (.cells (arrV .u32 [p', q', r', s']) 32)).alloc (.cells (arrV .u32 [p, q, r, s]) 33)) := (((Below.refl _ _).alloc (Nat.le_refl _) _).alloc (by simp) _).alloc (by simp; omega) _
  have R1 := Lib.hid r1'; have R2 := Lib.hid r2'; have R3 := Lib.hid r3; have B0 := Lib.hid b0
  clear r1 r2 r3 r1' r2' b0
  go_enter Try.func11, Try.ntmps11
  go_wp2_with fail
  refine (um (w.heap.size + 1 + 1) (fun i => [p, q, r, s].getD i 0) [p', q', r', s'] _ rfl R3.out).mono ?_
  rintro e w1 ⟨rfl, hx, hg⟩
  have ha : w1.rowIs w.heap.size 32 4 (fun i => .int .u32 ([p, q, r, s].getD i 0)) := row_by R1.out hg (by omega)
  have hb : w1.rowIs (w.heap.size + 1) 32 4 (fun i => .int .u32 ([p', q', r', s'].getD i 0)) := row_by R2.out hg (by omega)
  have hgr : Below w.heap.size w w1 := B0.out.grown hg (by simp; omega) (fun k hk => by injection hk; omega)
  clear hg R1 R2 R3 B0
  obtain ⟨av, hav⟩ : ∃ av : Nat → Int, av = fun i => [p, q, r, s].getD i 0 := ⟨_, rfl⟩
  obtain ⟨bv, hbv⟩ : ∃ bv : Nat → Int, bv = fun i => [p', q', r', s'].getD i 0 := ⟨_, rfl⟩
  have hx' : w1.rowIs (w.heap.size + 1 + 1) 33 4 (fun i => .int .u32 (mx (av i) (bv i))) := by rw [hav, hbv]; exact hx
  have ha' : w1.rowIs w.heap.size 32 4 (fun i => .int .u32 (av i)) := by rw [hav]; exact ha
  have hb' : w1.rowIs (w.heap.size + 1) 32 4 (fun i => .int .u32 (bv i)) := by rw [hbv]; exact hb
  clear hx ha hb hav hbv
  have HX := Lib.hid hx'; have HA := Lib.hid ha'; have HB := Lib.hid hb'; have HG := Lib.hid hgr
  clear hx' ha' hb' hgr
  go_wp2_with fail
  go_loopw [6] (fun i wr => ∃ k : Nat, k ≤ 4 ∧ i = .int .i64 k ∧ ∃ n, wr = w1.drewN n) (fun i _ => 4 - (intOf i).toNat)
  case atStart => exact ⟨0, by omega, rfl, 0, rfl⟩
  case round =>
    obtain ⟨k, hk, rfl, n, rfl⟩ := hrel
    by_cases hk4 : k < 4
    · have c1 : ∀ m, (w1.drewN m).cell? ⟨w.heap.size, k, none⟩ = some (.int .u32 (av k)) := fun m => HA.out.cell hk4
      have c2 : ∀ m, (w1.drewN m).cell? ⟨w.heap.size + 1, k, none⟩ = some (.int .u32 (bv k)) := fun m => HB.out.cell hk4
      have c3 : ∀ m, (w1.drewN m).cell? ⟨w.heap.size + 1 + 1, k, none⟩ = some (.int .u32 (mx (av k) (bv k))) := fun m => HX.out.cell hk4
      have i1 : (k : Int) < 4 := by omega
      have i0 : 0 ≤ (k : Int) := by omega
      by_cases hc : av k < bv k
      · have e : mx (av k) (bv k) = bv k := by simp [mx, hc]
        rw [e] at c3
        clear e
        generalize av k = x at *
        generalize bv k = y at *
        have d1 : decide (y < x) = false := by simp; omega
        have d2 : decide (y < y) = false := by simp
        have d3 : (y != x) = true := by simp; omega
        have d4 : (y != y) = false := by simp
        go_wp2
        go_quiet (fail)
        go_wp2
        go_quiet (fail)
        go_wp2
        go_roundw
        case rel => exact ⟨k + 1, by omega, by go_num, _, rfl⟩
        case measure => simp [intOf]; omega
      · have e : mx (av k) (bv k) = av k := by simp [mx, hc]
        rw [e] at c3
        clear e
        generalize av k = x at *
        generalize bv k = y at *
        have d1 : decide (x < y) = false := by simp; omega
        have d2 : decide (x < x) = false := by simp
        have d4 : (x != x) = false := by simp
        go_wp2
        go_quiet (fail)
        go_wp2
        go_quiet (fail)
        go_wp2
        go_roundw
        case rel => exact ⟨k + 1, by omega, by go_num, _, rfl⟩
        case measure => simp [intOf]; omega
    · obtain rfl : k = 4 := by omega
      go_wp2
      go_ret
      exact ⟨rfl, below_drewN HG.out _⟩
