/-
  The walk of FnHasContentAgreesWithFinalize.
-/
import Derived.Test.YtbigamkmkmfdfaaDoorK2
namespace Go.Proofs.YtbigamkmkmfdfaaDoor
open Go.ChangeShapes Go.WideShapes Go.ChangeAt Go.RowKit
set_option linter.unusedVariables false
/-- Finalize with one shift, whatever there is to be joined -/
theorem fin_any (w : World) (B : Nat) (p0 p1 p2 : Option Addr) (n0 n1 n2 : Nat) (x0 x1 x2 : List Int) (q : Addr) (hB : B ≤ w.heap.size) (h0 : OwnB w B (.slice p0 n0 n0) x0) (h1 : OwnB w B (.slice p1 n1 n1) x1) (h2 : OwnB w B (.slice p2 n2 n2) x2) (hs : n0 + n1 + n2 ≤ 1048576) :
    Calls Tryd.prog 12 #[.agg #[.slice p0 n0 n0, .slice p1 n1 n1, .slice p2 n2 n2], .slice (some q) 1 1] w fun e w' => ∃ v, e = .returned v ∧ Bytes w' v (x0 ++ x1 ++ x2) ∧ Bytes w' (.slice p0 n0 n0) x0 ∧ Bytes w' (.slice p1 n1 n1) x1 ∧ Bytes w' (.slice p2 n2 n2) x2 ∧ Below B w w' := by
  have l1 := (bytes_src h1.bytes).1; have l2 := (bytes_src h2.bytes).1
  by_cases hpos : 0 < n1 + n2
  · refine (finA w p0 p1 p2 n0 n1 n2 x0 x1 x2 q h0.bytes h1.bytes h2.bytes hs hpos).mono ?_
    rintro e w' ⟨v, rfl, hb, hbe⟩
    exact ⟨v, rfl, hb, h0.bytes.keep hbe, h1.bytes.keep hbe, h2.bytes.keep hbe, hbe.mono hB⟩
  · obtain ⟨rfl, rfl⟩ : n1 = 0 ∧ n2 = 0 := by omega
    obtain rfl : x1 = [] := List.eq_nil_of_length_eq_zero l1
    obtain rfl : x2 = [] := List.eq_nil_of_length_eq_zero l2
    refine (finB w B p0 p1 p2 n0 x0 q hB h0 (by omega)).mono ?_
    rintro e w' ⟨rfl, ho, hbe⟩
    refine ⟨_, rfl, by simpa using ho.bytes, ho.bytes, h1.bytes.empty rfl, h2.bytes.empty rfl, hbe⟩
set_option maxRecDepth 100000 in
set_option maxHeartbeats 4000000 in
theorem FnHasContentAgreesWithFinalize_walk (a0 : Option Addr) (len0 cap0 : Nat) (z0 : List Int) (a1 : Option Addr) (len1 cap1 : Nat) (z1 : List Int) (a2 : Option Addr) (len2 cap2 : Nat) (z2 : List Int) (w : World) (w0 : IsRow .u8 w a0 len0 cap0 z0) (w1 : IsRow .u8 w a1 len1 cap1 z1) (w2 : IsRow .u8 w a2 len2 cap2 z2) (hT : Lib.TabSlice 0 .u8 b64 w) :
    Calls Tryd.prog 3 #[.slice a0 len0 cap0, .slice a1 len1 cap1, .slice a2 len2 cap2] w fun e w' => e = .returned (.bool true) ∧ Below w.heap.size w w' := by
  have hx0 : len0 ≤ maxLen := by rcases w0 with ⟨_, rfl, _⟩ | ⟨x, _, h, h', _⟩ <;> omega
  have hx1 : len1 ≤ maxLen := by rcases w1 with ⟨_, rfl, _⟩ | ⟨x, _, h, h', _⟩ <;> omega
  have hx2 : len2 ≤ maxLen := by rcases w2 with ⟨_, rfl, _⟩ | ⟨x, _, h, h', _⟩ <;> omega
  unfold maxLen at hx0 hx1 hx2
  obtain ⟨b0, l0⟩ := w0.bytes
  obtain ⟨b1, l1⟩ := w1.bytes
  obtain ⟨b2, l2⟩ := w2.bytes
  generalize z0.take len0 = x0 at *
  generalize z1.take len1 = x1 at *
  generalize z2.take len2 = x2 at *
  have B0 := Lib.hid b0; have B1 := Lib.hid b1; have B2 := Lib.hid b2
  have L0 := Lib.hid l0; have L1 := Lib.hid l1; have L2 := Lib.hid l2
  clear b0 b1 b2 l0 l1 l2 w0 w1 w2 hT
  by_cases s0 : 1048576 < len0
  · go_enter Tryd.func3, Tryd.ntmps3
    go_wp2_with (first | (go_at_call 9; go_in))
    go_ret; exact ⟨rfl, Below.refl _ _⟩
  by_cases s1 : 1048576 < len1
  · go_enter Tryd.func3, Tryd.ntmps3
    go_wp2_with (first | (go_at_call 9; go_in))
    go_ret; exact ⟨rfl, Below.refl _ _⟩
  by_cases s2 : 1048576 < len0 + len1
  · go_enter Tryd.func3, Tryd.ntmps3
    go_wp2_with (first | (go_at_call 9; go_in))
    go_ret; exact ⟨rfl, Below.refl _ _⟩
  by_cases s3 : 1048576 < len2
  · go_enter Tryd.func3, Tryd.ntmps3
    go_wp2_with (first | (go_at_call 9; go_in))
    go_ret; exact ⟨rfl, Below.refl _ _⟩
  by_cases s4 : 1048576 < len0 + len1 + len2
  · go_enter Tryd.func3, Tryd.ntmps3
    go_wp2_with (first | (go_at_call 9; go_in))
    go_ret; exact ⟨rfl, Below.refl _ _⟩
  go_enter Tryd.func3, Tryd.ntmps3
  go_wp2_with (first | (go_at_call 9; go_in))
  refine (clone10 _ _ _ _ x0 B0.out (by omega)).mono ?_
  rintro e v1 ⟨p0, rfl, o0, be1⟩
  have O0 := Lib.hid o0; have E1 := Lib.hid be1; clear o0 be1
  go_wp2_with fail
  refine (clone10 _ _ _ _ x1 (B1.out.keep E1.out) (by omega)).mono ?_
  rintro e v2 ⟨p1, rfl, o1, be2⟩
  have O1 := Lib.hid (o1.mono E1.out.size); have E2 := Lib.hid be2; have E12 := Lib.hid (E1.out.trans (be2.mono E1.out.size)); clear o1 be2
  have O0' := Lib.hid (O0.out.keep E2.out)
  go_wp2_with fail
  refine (clone10 _ _ _ _ x2 (B2.out.keep E12.out) (by omega)).mono ?_
  rintro e v3 ⟨p2, rfl, o2, be3⟩
  have O2 := Lib.hid (o2.mono E12.out.size); have E3 := Lib.hid be3; have E13 := Lib.hid (E12.out.trans (be3.mono E12.out.size)); clear o2 be3
  have O1' := Lib.hid (O1.out.keep E3.out)
  have O0'' := Lib.hid (O0'.out.keep E3.out)
  clear O0 O0' O1 E1 E2 E3 E12
  go_wp2_with (first | (go_at_call 11; go_in))
  obtain ⟨v6, hv6⟩ : ∃ v6, ((v3.alloc (Obj.cells #[Value.slice p0 len0 len0, Value.slice p1 len1 len1, Value.slice p2 len2 len2] 26)).alloc (Obj.cells #[Value.slice p0 len0 len0, Value.slice p1 len1 len1, Value.slice p2 len2 len2] 26)).alloc (Obj.cells #[Value.int IntKind.i64 0, Value.int IntKind.i64 0, Value.int IntKind.i64 0, Value.int IntKind.i64 0] 32) = v6 := ⟨_, rfl⟩
  have be6 : Below v3.heap.size v3 v6 := by rw [← hv6]; exact (((Below.refl _ _).alloc (Nat.le_refl _) _).alloc (by simp) _).alloc (by simp; omega) _
  rw [hv6]
  have E6 := Lib.hid (E13.out.trans (be6.mono E13.out.size))
  have HF := Lib.hid (fin_any v6 w.heap.size p0 p1 p2 len0 len1 len2 x0 x1 x2 ⟨v3.heap.size + 1 + 1, 0, none⟩ E6.out.size (O0''.out.keep be6) (O1'.out.keep be6) (O2.out.keep be6) (by omega))
  clear be6 hv6
  refine (HF.out).mono ?_
  rintro e v7 ⟨v, rfl, hb, _, _, _, hbe⟩
  obtain ⟨p, c, rfl, hc, _⟩ := hb
  have hn : (x0 ++ x1 ++ x2).length = len0 + len1 + len2 := by have := L0.out; have := L1.out; have := L2.out; simp; omega
  rw [hn]
  have E7 := Lib.hid (E6.out.trans hbe)
  clear hn hc hbe
  by_cases hz : 0 < len0 + len1 + len2
  · have d : (0 : Int) < (len0 : Int) + len1 + len2 := by omega
    go_wp2_with fail
    go_ret
    exact ⟨rfl, E7.out⟩
  · have d : ¬ (0 : Int) < (len0 : Int) + len1 + len2 := by omega
    go_wp2_with fail
    go_ret
    exact ⟨rfl, E7.out⟩
end Go.Proofs.YtbigamkmkmfdfaaDoor
