/-
  The walk of FnFinalizeOneShiftConcatenates.
-/
import Derived.Test.YtbigamkmkmfdfaaDoorK3
namespace Go.Proofs.YtbigamkmkmfdfaaDoor
open Go.ChangeShapes Go.WideShapes Go.ChangeAt Go.RowKit
set_option linter.unusedVariables false
theorem below_drewN (w : World) (B n : Nat) : Below B w (w.drewN n) := ⟨rfl, rfl, rfl, Nat.le_refl _, fun _ _ => rfl⟩
theorem nil_bytes (w : World) (c : Nat) (xs : List Int) (h : xs.length = 0) : Bytes w (.slice none 0 c) xs := ⟨none, c, by rw [h], by omega, fun i hi => absurd hi (by omega)⟩
theorem add_add (a : Addr) (i j : Nat) : (a.add i).add j = a.add (i + j) := by
  unfold Addr.add
  by_cases hi : i = 0 <;> by_cases hj : j = 0 <;> simp [hi, hj, Nat.add_assoc]
theorem sub_bytes {w : World} {a : Addr} {xs : List Int} (hi : ∀ i, i < xs.length → ∃ a', some a = some a' ∧ w.cell? (a'.add i) = some (.int .u8 (xs.getD i 0))) (off n c : Nat) (ys : List Int) (ao : Option Addr) (hl : ys.length = n) (hc : n ≤ c) (hf : off + n ≤ xs.length) (he : ∀ i, i < n → ys.getD i 0 = xs.getD (off + i) 0) (ha : 0 < n → ao = some (a.add off)) : Bytes w (.slice ao n c) ys := by
  subst hl
  refine ⟨ao, c, rfl, hc, fun i h => ⟨_, ha (by omega), ?_⟩⟩
  obtain ⟨a', e, hcell⟩ := hi (off + i) (by omega)
  cases e
  rw [add_add, hcell, he i h]
set_option maxRecDepth 100000 in
set_option maxHeartbeats 4000000 in
theorem FnFinalizeOneShiftConcatenates_walk (a0 : Option Addr) (len0 cap0 : Nat) (z0 : List Int) (a1 : Option Addr) (len1 cap1 : Nat) (z1 : List Int) (a2 : Option Addr) (len2 cap2 : Nat) (z2 : List Int) (a3 a4 a5 a6 : Int) (w : World) (w0 : IsRow .u8 w a0 len0 cap0 z0) (w1 : IsRow .u8 w a1 len1 cap1 z1) (w2 : IsRow .u8 w a2 len2 cap2 z2) (w3 : (Lit.int .i64 a3).wf = true) (w4 : (Lit.int .i64 a4).wf = true) (w5 : (Lit.int .i64 a5).wf = true) (w6 : (Lit.int .i64 a6).wf = true) (hT : Lib.TabSlice 0 .u8 b64 w) :
    Calls Tryd.prog 7 #[.slice a0 len0 cap0, .slice a1 len1 cap1, .slice a2 len2 cap2, .int .i64 a3, .int .i64 a4, .int .i64 a5, .int .i64 a6] w fun e w' => e = .returned (.bool true) ∧ Below w.heap.size w w' := by
  have hx0 : len0 ≤ maxLen := by rcases w0 with ⟨_, rfl, _⟩ | ⟨x, _, h, h', _⟩ <;> omega
  have hx1 : len1 ≤ maxLen := by rcases w1 with ⟨_, rfl, _⟩ | ⟨x, _, h, h', _⟩ <;> omega
  have hx2 : len2 ≤ maxLen := by rcases w2 with ⟨_, rfl, _⟩ | ⟨x, _, h, h', _⟩ <;> omega
  unfold maxLen at hx0 hx1 hx2
  obtain ⟨b0, l0⟩ := w0.bytes
  obtain ⟨b1, l1⟩ := w1.bytes
  obtain ⟨b2, l2⟩ := w2.bytes
  generalize z0.take len0 = x0 at *
  generalize z1.take len1 = x1 at *
  generalize z2.take len2 = x2 at *
  have B0 := Lib.hid b0; have B1 := Lib.hid b1; have B2 := Lib.hid b2
  have L0 := Lib.hid l0; have L1 := Lib.hid l1; have L2 := Lib.hid l2
  clear b0 b1 b2 l0 l1 l2 w0 w1 w2 hT w3 w4 w5 w6
  by_cases s0 : 1048576 < len0
  · go_enter Tryd.func7, Tryd.ntmps7
    go_wp2_with (first | (go_at_call 27; go_in))
    go_ret; exact ⟨rfl, Below.refl _ _⟩
  by_cases s1 : 1048576 < len1
  · go_enter Tryd.func7, Tryd.ntmps7
    go_wp2_with (first | (go_at_call 27; go_in))
    go_ret; exact ⟨rfl, Below.refl _ _⟩
  by_cases s2 : 1048576 < len0 + len1
  · go_enter Tryd.func7, Tryd.ntmps7
    go_wp2_with (first | (go_at_call 27; go_in))
    go_ret; exact ⟨rfl, Below.refl _ _⟩
  by_cases s3 : 1048576 < len2
  · go_enter Tryd.func7, Tryd.ntmps7
    go_wp2_with (first | (go_at_call 27; go_in))
    go_ret; exact ⟨rfl, Below.refl _ _⟩
  by_cases s4 : 1048576 < len0 + len1 + len2
  · go_enter Tryd.func7, Tryd.ntmps7
    go_wp2_with (first | (go_at_call 27; go_in))
    go_ret; exact ⟨rfl, Below.refl _ _⟩
  go_enter Tryd.func7, Tryd.ntmps7
  go_wp2_with (first | (go_at_call 27; go_in))
  refine (clone10 _ _ _ _ x0 B0.out (by omega)).mono ?_
  rintro e v1 ⟨p0, rfl, o0, be1⟩
  have O0 := Lib.hid o0; have E1 := Lib.hid be1; clear o0 be1
  go_wp2_with fail
  refine (clone10 _ _ _ _ x1 (B1.out.keep E1.out) (by omega)).mono ?_
  rintro e v2 ⟨p1, rfl, o1, be2⟩
  have O1 := Lib.hid (o1.mono E1.out.size); have E2 := Lib.hid be2; have E12 := Lib.hid (E1.out.trans (be2.mono E1.out.size)); clear o1 be2
  have O0' := Lib.hid (O0.out.keep E2.out)
  go_wp2_with fail
  refine (clone10 _ _ _ _ x2 (B2.out.keep E12.out) (by omega)).mono ?_
  rintro e v3 ⟨p2, rfl, o2, be3⟩
  have O2 := Lib.hid (o2.mono E12.out.size); have E3 := Lib.hid be3; have E13 := Lib.hid (E12.out.trans (be3.mono E12.out.size)); clear o2 be3
  have O1' := Lib.hid (O1.out.keep E3.out)
  have O0'' := Lib.hid (O0'.out.keep E3.out)
  clear O0 O0' O1 E1 E2 E3 E12
  go_wp2_with fail
  obtain ⟨v6, hv6⟩ : ∃ v6, v3.alloc (Obj.cells #[Value.int IntKind.i64 a3, Value.int IntKind.i64 a4, Value.int IntKind.i64 a5, Value.int IntKind.i64 a6] 32) = v6 := ⟨_, rfl⟩
  have be6 : Below v3.heap.size v3 v6 := by rw [← hv6]; exact (Below.refl _ _).alloc (Nat.le_refl _) _
  rw [hv6]
  have E6 := Lib.hid (E13.out.trans (be6.mono E13.out.size))
  have HF := Lib.hid (fin_any v6 w.heap.size p0 p1 p2 len0 len1 len2 x0 x1 x2 ⟨v3.heap.size, 0, none⟩ E6.out.size (O0''.out.keep be6) (O1'.out.keep be6) (O2.out.keep be6) (by omega))
  clear be6 hv6 O0'' O1' O2 E13
  refine (HF.out).mono ?_
  rintro e v7 ⟨v, rfl, hb, hd0, hd1, hd2, hbe⟩
  obtain ⟨p, c, rfl, hc, hi⟩ := hb
  have hn : (x0 ++ x1 ++ x2).length = len0 + len1 + len2 := by have := L0.out; have := L1.out; have := L2.out; simp; omega
  have HOut := Lib.hid hi; have HN := Lib.hid hn
  rw [hn] at hc ⊢
  have E7 := Lib.hid (E6.out.trans hbe)
  have D0 := Lib.hid hd0; have D1 := Lib.hid hd1; have D2 := Lib.hid hd2
  clear hn hbe hd0 hd1 hd2 hi
  cases p with
  | none =>
    have hz : len0 = 0 ∧ len1 = 0 ∧ len2 = 0 := by
      by_cases h : 0 < (x0 ++ x1 ++ x2).length
      · obtain ⟨a, ha, _⟩ := HOut.out 0 h
        cases ha
      · rw [HN.out] at h; omega
    obtain ⟨rfl, rfl, rfl⟩ := hz
    go_wp2_with fail
    refine (same20 _ _ _ x0 x0 (nil_bytes _ _ _ L0.out) D0.out (by rw [L0.out]; omega) (by rw [L0.out]; omega)).mono ?_
    rintro e v8 ⟨⟨b, rfl, hb⟩, n, rfl⟩
    obtain rfl : b = true := hb.2 rfl
    clear hb
    go_wp2_with fail
    refine (same20 _ _ _ x1 x1 (nil_bytes _ _ _ L1.out) (D1.out.keep (below_drewN _ _ _)) (by rw [L1.out]; omega) (by rw [L1.out]; omega)).mono ?_
    rintro e v8 ⟨⟨b, rfl, hb⟩, n2, rfl⟩
    obtain rfl : b = true := hb.2 rfl
    clear hb
    go_wp2_with fail
    refine (same20 _ _ _ x2 x2 (nil_bytes _ _ _ L2.out) (D2.out.keep (below_drewN v7 _ (n + n2))) (by rw [L2.out]; omega) (by rw [L2.out]; omega)).mono ?_
    rintro e v8 ⟨⟨b, rfl, hb⟩, n3, rfl⟩
    obtain rfl : b = true := hb.2 rfl
    clear hb
    go_wp2_with fail
    go_ret
    first | exact ⟨rfl, E7.out.trans (below_drewN v7 _ _)⟩ | exact ⟨rfl, (E7.out.trans (below_drewN v7 _ (n + n2))).trans (below_drewN _ _ n3)⟩
  | some a =>
    have q0 := Lib.hid (sub_bytes HOut.out 0 len0 c x0 (some a) L0.out (by omega) (by rw [HN.out]; omega) (fun i h => by
      have := L0.out
      rw [Nat.zero_add, List.append_assoc]; simp [List.getD, List.getElem?_append, show i < x0.length by omega]) (fun _ => by simp [Addr.add]))
    have G1 := Lib.hid (show ∀ i, i < len1 → x1.getD i 0 = (x0 ++ x1 ++ x2).getD (len0 + i) 0 from fun i h => by
      have := L0.out; have := L1.out
      rw [List.append_assoc]; simp [List.getD, List.getElem?_append, show ¬ len0 + i < x0.length by omega, show len0 + i - x0.length = i by omega, show i < x1.length by omega])
    have G2 := Lib.hid (show ∀ i, i < len2 → x2.getD i 0 = (x0 ++ x1 ++ x2).getD (len0 + len1 + i) 0 from fun i h => by
      have := L0.out; have := L1.out; have := L2.out
      simp [List.getD, List.getElem?_append, show ¬ len0 + len1 + i < x0.length by omega, show ¬ len0 + len1 + i - x0.length < x1.length by omega, show len0 + len1 + i - x0.length - x1.length = i by omega])
    go_wp2_with fail
    refine (same20 _ _ _ x0 x0 q0.out D0.out (by rw [L0.out]; omega) (by rw [L0.out]; omega)).mono ?_
    rintro e v8 ⟨⟨b, rfl, hb⟩, n, rfl⟩
    obtain rfl : b = true := hb.2 rfl
    clear hb
    go_wp2_with fail
    all_goals
      refine (same20 _ _ _ x1 x1 ((sub_bytes HOut.out len0 len1 _ x1 _ L1.out (by omega) (by rw [HN.out]; omega) G1.out (by intro hh; first | (exfalso; omega) | rfl)).keep (below_drewN v7 _ n)) (D1.out.keep (below_drewN v7 _ n)) (by rw [L1.out]; omega) (by rw [L1.out]; omega)).mono ?_
      rintro e v8 ⟨⟨b, rfl, hb⟩, n2, rfl⟩
      obtain rfl : b = true := hb.2 rfl
      clear hb
      go_wp2_with fail
      all_goals
        refine (same20 _ _ _ x2 x2 ((sub_bytes HOut.out (len0 + len1) len2 _ x2 _ L2.out (by omega) (by rw [HN.out]; omega) G2.out (by intro hh; first | (exfalso; omega) | rfl)).keep (below_drewN v7 _ (n + n2))) (D2.out.keep (below_drewN v7 _ (n + n2))) (by rw [L2.out]; omega) (by rw [L2.out]; omega)).mono ?_
        rintro e v8 ⟨⟨b, rfl, hb⟩, n3, rfl⟩
        obtain rfl : b = true := hb.2 rfl
        clear hb
        go_wp2_with fail
        go_ret
        first | exact ⟨rfl, E7.out.trans (below_drewN v7 _ _)⟩ | exact ⟨rfl, (E7.out.trans (below_drewN v7 _ (n + n2))).trans (below_drewN _ _ n3)⟩
end Go.Proofs.YtbigamkmkmfdfaaDoor
