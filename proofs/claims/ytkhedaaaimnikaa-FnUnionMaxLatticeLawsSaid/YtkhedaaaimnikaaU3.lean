/-
  The walk of FnUnionMaxLatticeLaws.
-/
import Derived.Test.YtkhedaaaimnikaaU2
import Derived.Test.YtkhedaaaimnikaaArrEq
namespace Go.Proofs.Ytkhedaaaimnikaa
open Go.ChangeShapes Go.WideShapes Go.ChangeAt Go.RowKit
set_option linter.unusedVariables false

abbrev quad (p q r s : Int) : Array Value := #[.int .u32 p, .int .u32 q, .int .u32 r, .int .u32 s]
structure Q (w : World) (g : Nat) (p q r s : Int) : Prop where
  lt : g < w.heap.size
  c0 : w.cell? ⟨g, 0, none⟩ = some (.int .u32 p)
  c1 : w.cell? ⟨g, 1, none⟩ = some (.int .u32 q)
  c2 : w.cell? ⟨g, 2, none⟩ = some (.int .u32 r)
  c3 : w.cell? ⟨g, 3, none⟩ = some (.int .u32 s)
theorem Q.of {w : World} {g : Nat} {t : TypeId} {f : Nat → Value} {p q r s : Int} (h : w.rowIs g t 4 f) (h0 : f 0 = .int .u32 p) (h1 : f 1 = .int .u32 q) (h2 : f 2 = .int .u32 r) (h3 : f 3 = .int .u32 s) : Q w g p q r s :=
  ⟨h.lt, by rw [h.cell (by omega), h0], by rw [h.cell (by omega), h1], by rw [h.cell (by omega), h2], by rw [h.cell (by omega), h3]⟩
theorem Q.keep {w w' : World} {g : Nat} {p q r s : Int} (h : Q w g p q r s) (hb : Below w.heap.size w w') : Q w' g p q r s :=
  ⟨Nat.lt_of_lt_of_le h.lt hb.size, by rw [hb.cell h.lt]; exact h.c0, by rw [hb.cell h.lt]; exact h.c1, by rw [hb.cell h.lt]; exact h.c2, by rw [hb.cell h.lt]; exact h.c3⟩
theorem um' (w : World) (p q r s p' q' r' s' : Int) : Calls Try.prog 29 #[.pointer (some ⟨w.heap.size, 0, none⟩), .agg (quad p' q' r' s')] (w.alloc (.cells (quad p q r s) 33)) fun e w' => e = .returned (.tuple #[]) ∧ Q w' w.heap.size (mx p p') (mx q q') (mx r r') (mx s s') ∧ Below w.heap.size w w' := by
  refine (um w.heap.size (fun i => [p, q, r, s].getD i 0) [p', q', r', s'] _ rfl (row_alloc w 33 .u32 [p, q, r, s])).mono ?_
  rintro e w' ⟨rfl, hr, hg⟩
  exact ⟨rfl, Q.of hr rfl rfl rfl rfl, ((Below.refl _ _).alloc (Nat.le_refl _) _).grown hg (by simp) (fun k hk => by injection hk; omega)⟩
theorem mx_comm (a b : Int) : mx a b = mx b a := by unfold mx; (repeat' split) <;> omega
theorem mx_self (a : Int) : mx a a = a := by unfold mx; (repeat' split) <;> omega
theorem mx_twice (a b : Int) : mx (mx a b) b = mx a b := by unfold mx; (repeat' split) <;> omega
theorem mx_assoc (a b c : Int) : mx a (mx b c) = mx (mx a b) c := by unfold mx; (repeat' split) <;> omega
theorem neq_same (w : World) (a b c d : Int) : (binOp .neq 33 (.agg (quad a b c d)) (.agg (quad a b c d))).run Try.prog w = .ok (.bool false) w := by
  obtain ⟨i, hi⟩ : ∃ i, Try.prog.info? 31 = some i := by
    have h : (Try.prog.info? 31).isSome = true := by kernel_rfl
    exact Option.isSome_iff_exists.1 h
  have := run_neq_ints (P := Try.prog) w 33 31 4 .u32 i Try.underlying33 hi Try.underlying31 (by kernel_rfl) [a, b, c, d] [a, b, c, d] rfl rfl
  rw [show (!([a, b, c, d] == [a, b, c, d])) = false by simp] at this
  exact this
theorem eql_same (w : World) (a b c d : Int) : (binOp .eql 33 (.agg (quad a b c d)) (.agg (quad a b c d))).run Try.prog w = .ok (.bool true) w := by
  obtain ⟨i, hi⟩ : ∃ i, Try.prog.info? 31 = some i := by
    have h : (Try.prog.info? 31).isSome = true := by kernel_rfl
    exact Option.isSome_iff_exists.1 h
  have := run_eql_ints (P := Try.prog) w 33 31 4 .u32 i Try.underlying33 hi Try.underlying31 (by kernel_rfl) [a, b, c, d] [a, b, c, d] rfl rfl
  rw [show ([a, b, c, d] == [a, b, c, d]) = true by simp] at this
  exact this
theorem Q.new (w : World) (g : Nat) (t : TypeId) (p q r s : Int) (hg : w.heap.size = g) : Q (w.alloc (.cells (arrV .u32 [p, q, r, s]) t)) g p q r s :=
  Q.of (row_at w g t .u32 [p, q, r, s] hg) rfl rfl rfl rfl
theorem FnUnionMaxLatticeLaws_walk (a0 : List Int) (a1 : List Int) (a2 : List Int) (w0 : IsArr .u32 4 a0) (w1 : IsArr .u32 4 a1) (w2 : IsArr .u32 4 a2) (w : World) :
    Calls Try.prog 13 #[.agg (arrV .u32 a0), .agg (arrV .u32 a1), .agg (arrV .u32 a2)] w fun e w' => e = .returned (.bool true) ∧ Below w.heap.size w w' := by
  obtain ⟨p, q, r, s, rfl⟩ := list4 a0 w0.1
  obtain ⟨p', q', r', s', rfl⟩ := list4 a1 w1.1
  obtain ⟨p'', q'', r'', s'', rfl⟩ := list4 a2 w2.1
  clear w0 w1 w2
  have hne := neq_same
  have heq := eql_same
  go_enter Try.func13, Try.ntmps13
  go_wp2_with fail
  obtain ⟨W, hW⟩ : ∃ W : World, W = ((w.alloc (.cells (arrV .u32 [p, q, r, s]) 32)).alloc (.cells (arrV .u32 [p', q', r', s']) 32)).alloc (.cells (arrV .u32 [p'', q'', r'', s'']) 32) := ⟨_, rfl⟩
  have hs : W.heap.size = w.heap.size + 1 + 1 + 1 := by rw [hW]; simp
  have hb : Below w.heap.size w W := by rw [hW]; exact (((Below.refl _ _).alloc (Nat.le_refl _) _).alloc (by simp) _).alloc (by simp; omega) _
  have qa : Q W w.heap.size p q r s := by rw [hW]; exact ((Q.new w _ 32 p q r s rfl).keep ((Below.refl _ _).alloc (Nat.le_refl _) _)).keep ((Below.refl _ _).alloc (Nat.le_refl _) _)
  have qb : Q W (w.heap.size + 1) p' q' r' s' := by rw [hW]; exact (Q.new _ _ 32 p' q' r' s' (by simp)).keep ((Below.refl _ _).alloc (Nat.le_refl _) _)
  have qc : Q W (w.heap.size + 1 + 1) p'' q'' r'' s'' := by rw [hW]; exact Q.new _ _ 32 p'' q'' r'' s'' (by simp)
  rw [← hW, ← hs]
  clear hW
  refine (um' W p q r s p' q' r' s').mono ?_
  rintro e w1 ⟨rfl, qab, hb1⟩
  replace qa := qa.keep hb1; replace qb := qb.keep hb1; replace qc := qc.keep hb1
  replace hb := hb.trans (hb1.mono (by omega))
  generalize W.heap.size = gab at *
  clear hb1 hs
  obtain ⟨l0, a0, a1, a2, a3⟩ := id qa
  obtain ⟨l1, b0, b1, b2, b3⟩ := id qb
  go_wp2_with fail
  refine (um' w1 p' q' r' s' p q r s).mono ?_
  rintro e w2 ⟨rfl, qba, hb2⟩
  clear l0 a0 a1 a2 a3 l1 b0 b1 b2 b3
  have hle : w.heap.size ≤ w1.heap.size := hb.size
  replace qa := qa.keep hb2; replace qb := qb.keep hb2; replace qc := qc.keep hb2; replace qab := qab.keep hb2
  replace hb := hb.trans (hb2.mono hle)
  rw [mx_comm p' p, mx_comm q' q, mx_comm r' r, mx_comm s' s] at qba
  clear hb2 hle
  generalize w1.heap.size = gba at *
  obtain ⟨l0, x0, x1, x2, x3⟩ := id qab
  obtain ⟨l1, y0, y1, y2, y3⟩ := id qba
  obtain ⟨l2, a0, a1, a2, a3⟩ := id qa
  go_wp2_with fail
  refine (um' w2 p q r s p q r s).mono ?_
  rintro e w3 ⟨rfl, qaa, hb2⟩
  clear l0 x0 x1 x2 x3 l1 y0 y1 y2 y3 l2 a0 a1 a2 a3
  have hle : w.heap.size ≤ w2.heap.size := hb.size
  replace qa := qa.keep hb2; replace qb := qb.keep hb2; replace qc := qc.keep hb2; replace qab := qab.keep hb2
  replace hb := hb.trans (hb2.mono hle)
  rw [mx_self, mx_self, mx_self, mx_self] at qaa
  clear hb2 hle
  generalize w2.heap.size = gaa at *
  obtain ⟨l0, x0, x1, x2, x3⟩ := id qaa
  obtain ⟨l1, a0, a1, a2, a3⟩ := id qa
  obtain ⟨l2, y0, y1, y2, y3⟩ := id qab
  obtain ⟨l3, b0, b1, b2, b3⟩ := id qb
  go_wp2_with fail
  refine (um' w3 (mx p p') (mx q q') (mx r r') (mx s s') p' q' r' s').mono ?_
  rintro e w4 ⟨rfl, qabb, hb2⟩
  clear l0 x0 x1 x2 x3 l1 a0 a1 a2 a3 l2 y0 y1 y2 y3 l3 b0 b1 b2 b3
  have hle : w.heap.size ≤ w3.heap.size := hb.size
  replace qa := qa.keep hb2; replace qb := qb.keep hb2; replace qc := qc.keep hb2; replace qab := qab.keep hb2
  replace hb := hb.trans (hb2.mono hle)
  rw [mx_twice, mx_twice, mx_twice, mx_twice] at qabb
  clear hb2 hle
  generalize w3.heap.size = gabb at *
  obtain ⟨l0, x0, x1, x2, x3⟩ := id qabb
  obtain ⟨l1, y0, y1, y2, y3⟩ := id qab
  obtain ⟨l2, c0, c1, c2, c3⟩ := id qc
  go_wp2_with fail
  refine (um' w4 (mx p p') (mx q q') (mx r r') (mx s s') p'' q'' r'' s'').mono ?_
  rintro e w5 ⟨rfl, ql, hb2⟩
  clear l0 x0 x1 x2 x3 l1 y0 y1 y2 y3 l2 c0 c1 c2 c3
  have hle : w.heap.size ≤ w4.heap.size := hb.size
  replace qa := qa.keep hb2; replace qb := qb.keep hb2; replace qc := qc.keep hb2; replace qab := qab.keep hb2
  replace hb := hb.trans (hb2.mono hle)
  clear hb2 hle
  generalize w4.heap.size = gl at *
  obtain ⟨l0, b0, b1, b2, b3⟩ := id qb
  obtain ⟨l1, c0, c1, c2, c3⟩ := id qc
  go_wp2_with fail
  refine (um' w5 p' q' r' s' p'' q'' r'' s'').mono ?_
  rintro e w6 ⟨rfl, qbc, hb2⟩
  clear l0 b0 b1 b2 b3 l1 c0 c1 c2 c3
  have hle : w.heap.size ≤ w5.heap.size := hb.size
  replace qa := qa.keep hb2; replace qb := qb.keep hb2; replace qc := qc.keep hb2; replace qab := qab.keep hb2; replace ql := ql.keep hb2
  replace hb := hb.trans (hb2.mono hle)
  clear hb2 hle
  generalize w5.heap.size = gbc at *
  obtain ⟨l0, a0, a1, a2, a3⟩ := id qa
  obtain ⟨l1, b0, b1, b2, b3⟩ := id qbc
  go_wp2_with fail
  refine (um' w6 p q r s (mx p' p'') (mx q' q'') (mx r' r'') (mx s' s'')).mono ?_
  rintro e w7 ⟨rfl, qr, hb2⟩
  clear l0 a0 a1 a2 a3 l1 b0 b1 b2 b3
  have hle : w.heap.size ≤ w6.heap.size := hb.size
  replace qa := qa.keep hb2; replace qb := qb.keep hb2; replace qc := qc.keep hb2; replace qab := qab.keep hb2; replace ql := ql.keep hb2; replace qbc := qbc.keep hb2
  replace hb := hb.trans (hb2.mono hle)
  rw [mx_assoc, mx_assoc, mx_assoc, mx_assoc] at qr
  clear hb2 hle
  generalize w6.heap.size = gr at *
  obtain ⟨l0, a0, a1, a2, a3⟩ := id ql
  obtain ⟨l1, b0, b1, b2, b3⟩ := id qr
  go_wp2_with fail
  go_ret
  exact ⟨rfl, hb⟩
