/-
  appendMappingToBuffer: what it writes.
-/
import Derived.Test.YtlplikpjnocdfaaDoorA4
namespace Go.Proofs.YtlplikpjnocdfaaDoor
open Go.ChangeShapes Go.WideShapes Go.ChangeAt Go.RowKit
set_option linter.unusedVariables false
set_option maxRecDepth 100000 in
set_option maxHeartbeats 8000000 in
theorem app_sp (w : World) (B : Nat) (v : Value) (xs : List Int) (p0 p1 p2 p3 p4 p5 : Int) (ph : Bool) (c0 c1 c2 c3 c4 c5 : Int) (R o cc : Nat) (hO : OwnB w B v xs) (hB : B ≤ w.heap.size) (hT : TabB w B R o cc) (hxs : xs.length ≤ 33554432)
    (e1 : -4294967296 ≤ c1 - p1 ∧ c1 - p1 ≤ 4294967296) (e2 : -4294967296 ≤ c2 - p2 ∧ c2 - p2 ≤ 4294967296) (e3 : -4294967296 ≤ c3 - p3 ∧ c3 - p3 ≤ 4294967296) (e4 : -4294967296 ≤ c4 - p4 ∧ c4 - p4 ≤ 4294967296) :
    Calls Tryd.prog 34 #[v, .int .u8 59, .agg (stV p0 p1 p2 p3 p4 p5 ph), .agg (stV c0 c1 c2 c3 c4 c5 false), .bool false] w fun e w' => ∃ v', e = .returned (.tuple #[v', .agg #[.int .u32 (0)]]) ∧ OwnB w' B v' (xs ++ enc (zig (c1 - p1)) ++ enc (zig (c2 - p2)) ++ enc (zig (c3 - p3)) ++ enc (zig (c4 - p4))) ∧ Mv w w' v v' := by
  obtain ⟨i0, hin, hz0, hz1, hz2⟩ := info_parts info5
  obtain ⟨W0, hW0⟩ : ∃ W0, ((w.alloc (Obj.cells (stV p0 p1 p2 p3 p4 p5 ph) 32)).alloc (Obj.cells (stV c0 c1 c2 c3 c4 c5 false) 32)).alloc (Obj.cells #[Value.int IntKind.u32 0] 59) = W0 := ⟨_, rfl⟩
  have hb0 : Below w.heap.size w W0 := by rw [← hW0]; exact (((Below.refl _ _).alloc (Nat.le_refl _) _).alloc (by simp) _).alloc (by simp; omega) _
  have hsz : W0.heap.size = w.heap.size + 1 + 1 + 1 := by rw [← hW0]; simp
  have hP : W0.heap[w.heap.size]? = some (Obj.cells (stV p0 p1 p2 p3 p4 p5 ph) 32 (0, 0)) := by
    rw [← hW0, heap_alloc_old _ _ (by simp; omega), heap_alloc_old _ _ (by simp)]; exact heap_alloc_new _ _
  have hC : W0.heap[w.heap.size + 1]? = some (Obj.cells (stV c0 c1 c2 c3 c4 c5 false) 32 (0, 0)) := by
    rw [← hW0, heap_alloc_old _ _ (by simp)]
    have := heap_alloc_new (w.alloc (Obj.cells (stV p0 p1 p2 p3 p4 p5 ph) 32)) (Obj.cells (stV c0 c1 c2 c3 c4 c5 false) 32)
    rw [show (w.alloc (Obj.cells (stV p0 p1 p2 p3 p4 p5 ph) 32)).heap.size = w.heap.size + 1 by simp] at this
    exact this
  have hR : W0.heap[w.heap.size + 1 + 1]? = some (Obj.cells #[Value.int IntKind.u32 0] 59 (0, 0)) := by
    rw [← hW0]
    have := heap_alloc_new ((w.alloc (Obj.cells (stV p0 p1 p2 p3 p4 p5 ph) 32)).alloc (Obj.cells (stV c0 c1 c2 c3 c4 c5 false) 32)) (Obj.cells #[Value.int IntKind.u32 0] 59)
    rw [show ((w.alloc (Obj.cells (stV p0 p1 p2 p3 p4 p5 ph) 32)).alloc (Obj.cells (stV c0 c1 c2 c3 c4 c5 false) 32)).heap.size = w.heap.size + 1 + 1 by simp] at this
    exact this
  have M0 := Lib.hid (Mv.of_below v hb0)
  have HW0 := Lib.hid hW0; have HP := Lib.hid hP; have HC := Lib.hid hC; have HR := Lib.hid hR; have HSZ := Lib.hid hsz
  have HO := Lib.hid (hO.keep hb0); have HT0 := Lib.hid (hT.below (hb0.mono hB)); have HBB := Lib.hid hB
  have HBs := Lib.hid (show B ≤ W0.heap.size from Nat.le_trans hB hb0.size)
  have M := Lib.hid (Mv.refl W0 v)
  clear hP hC hR hb0 hO hT hB hW0 hsz
  go_enter Tryd.func34, Tryd.ntmps34
  go_wp2_with fail
  rw [HW0.out]
  have hl1 : (xs).length ≤ 33554432 + 8 := by simp; omega
  refine (enc36 W0 B _ (xs) (c1 - p1) R o cc HO.out (Nat.le_trans HBs.out M.out.g.size) (HT0.out.below (M.out.below B HBs.out HO.out.lt)) (by omega) e1.1 e1.2).mono ?_
  rintro e ws1 ⟨vs1, rfl, os1, ms1⟩
  obtain ⟨pps1, ccs1, hvs1, _, _⟩ := os1.bytes
  obtain ⟨Ns1, hNs1⟩ : ∃ N, (xs ++ enc (zig (c1 - p1))).length = N := ⟨_, rfl⟩
  rw [hNs1] at hvs1
  subst hvs1
  have hNls1 : Ns1 ≤ 33554432 + 16 := by rw [← hNs1, List.length_append]; have := enc_le (zig (c1 - p1)); omega
  have HNs1 := Lib.hid hNs1
  clear hNs1
  have Os1 := Lib.hid os1; have Ms1 := Lib.hid (M.out.trans ms1)
  clear os1 ms1 hl1
  have q1s1 := fld2 (Ms1.out.keep HO.out HP.out (by decide)); have q2s1 := fld2 (Ms1.out.keep HO.out HC.out (by decide))
  go_wp2_with fail
  have hl2 : (xs ++ enc (zig (c1 - p1))).length ≤ 33554432 + 15 := by simp; have := enc_le (zig (c1 - p1)); omega
  refine (enc36 ws1 B _ (xs ++ enc (zig (c1 - p1))) (c2 - p2) R o cc Os1.out (Nat.le_trans HBs.out Ms1.out.g.size) (HT0.out.below (Ms1.out.below B HBs.out HO.out.lt)) (by omega) e2.1 e2.2).mono ?_
  rintro e ws2 ⟨vs2, rfl, os2, ms2⟩
  obtain ⟨pps2, ccs2, hvs2, _, _⟩ := os2.bytes
  obtain ⟨Ns2, hNs2⟩ : ∃ N, (xs ++ enc (zig (c1 - p1)) ++ enc (zig (c2 - p2))).length = N := ⟨_, rfl⟩
  rw [hNs2] at hvs2
  subst hvs2
  have hNls2 : Ns2 ≤ 33554432 + 23 := by rw [← hNs2, List.length_append]; have := enc_le (zig (c2 - p2)); omega
  have HNs2 := Lib.hid hNs2
  clear hNs2
  have Os2 := Lib.hid os2; have Ms2 := Lib.hid (Ms1.out.trans ms2)
  clear os2 ms2 hl2
  have q1s2 := fld3 (Ms2.out.keep HO.out HP.out (by decide)); have q2s2 := fld3 (Ms2.out.keep HO.out HC.out (by decide))
  go_wp2_with fail
  have hl3 : (xs ++ enc (zig (c1 - p1)) ++ enc (zig (c2 - p2))).length ≤ 33554432 + 22 := by simp; have := enc_le (zig (c1 - p1)); have := enc_le (zig (c2 - p2)); omega
  refine (enc36 ws2 B _ (xs ++ enc (zig (c1 - p1)) ++ enc (zig (c2 - p2))) (c3 - p3) R o cc Os2.out (Nat.le_trans HBs.out Ms2.out.g.size) (HT0.out.below (Ms2.out.below B HBs.out HO.out.lt)) (by omega) e3.1 e3.2).mono ?_
  rintro e ws3 ⟨vs3, rfl, os3, ms3⟩
  obtain ⟨pps3, ccs3, hvs3, _, _⟩ := os3.bytes
  obtain ⟨Ns3, hNs3⟩ : ∃ N, (xs ++ enc (zig (c1 - p1)) ++ enc (zig (c2 - p2)) ++ enc (zig (c3 - p3))).length = N := ⟨_, rfl⟩
  rw [hNs3] at hvs3
  subst hvs3
  have hNls3 : Ns3 ≤ 33554432 + 30 := by rw [← hNs3, List.length_append]; have := enc_le (zig (c3 - p3)); omega
  have HNs3 := Lib.hid hNs3
  clear hNs3
  have Os3 := Lib.hid os3; have Ms3 := Lib.hid (Ms2.out.trans ms3)
  clear os3 ms3 hl3
  have q1s3 := fld4 (Ms3.out.keep HO.out HP.out (by decide)); have q2s3 := fld4 (Ms3.out.keep HO.out HC.out (by decide))
  go_wp2_with fail
  have hl4 : (xs ++ enc (zig (c1 - p1)) ++ enc (zig (c2 - p2)) ++ enc (zig (c3 - p3))).length ≤ 33554432 + 29 := by simp; have := enc_le (zig (c1 - p1)); have := enc_le (zig (c2 - p2)); have := enc_le (zig (c3 - p3)); omega
  refine (enc36 ws3 B _ (xs ++ enc (zig (c1 - p1)) ++ enc (zig (c2 - p2)) ++ enc (zig (c3 - p3))) (c4 - p4) R o cc Os3.out (Nat.le_trans HBs.out Ms3.out.g.size) (HT0.out.below (Ms3.out.below B HBs.out HO.out.lt)) (by omega) e4.1 e4.2).mono ?_
  rintro e ws4 ⟨vs4, rfl, os4, ms4⟩
  obtain ⟨pps4, ccs4, hvs4, _, _⟩ := os4.bytes
  obtain ⟨Ns4, hNs4⟩ : ∃ N, (xs ++ enc (zig (c1 - p1)) ++ enc (zig (c2 - p2)) ++ enc (zig (c3 - p3)) ++ enc (zig (c4 - p4))).length = N := ⟨_, rfl⟩
  rw [hNs4] at hvs4
  subst hvs4
  have hNls4 : Ns4 ≤ 33554432 + 37 := by rw [← hNs4, List.length_append]; have := enc_le (zig (c4 - p4)); omega
  have HNs4 := Lib.hid hNs4
  clear hNs4
  have Os4 := Lib.hid os4; have Ms4 := Lib.hid (Ms3.out.trans ms4)
  clear os4 ms4 hl4
  have MA := Lib.hid (Ms4.out.trans (Mv.alloc ws4 _ (Obj.cells #[Value.int IntKind.u32 0] 59)))
  have hP6 := fld6 (MA.out.keep HO.out HC.out (by decide))
  go_wp2_with fail
  have hRr := Ms4.out.keep HO.out HR.out (by decide)
  have hrlt : w.heap.size + 1 + 1 < ws4.heap.size := (Array.getElem?_eq_some_iff.1 hRr).1
  obtain ⟨r1, r2⟩ := ixc (MA.out.keep HO.out HR.out (by decide))
  have HRr := Lib.hid hRr
  clear hRr
  go_region
  all_goals
    go_wp2
    (try simp only [Exit.inBlock, Exit.then])
    have hfin : ((ws4.setCell ⟨w.heap.size + 1 + 1, 0, none⟩ (Value.int IntKind.u32 0)).alloc (Obj.cells #[Value.int IntKind.u32 0] 59)).drew.heap[w.heap.size + 1 + 1]? = some (Obj.cells #[Value.int IntKind.u32 0] 59 (0, 0)) := by
      show ((ws4.setCell ⟨w.heap.size + 1 + 1, 0, none⟩ (Value.int IntKind.u32 0)).alloc (Obj.cells #[Value.int IntKind.u32 0] 59)).heap[w.heap.size + 1 + 1]? = _
      rw [heap_alloc_old _ _ (by simpa [World.setCell] using hrlt)]
      exact ix_set 0 HRr.out
    refine bodyPost_ret (v := .tuple #[.slice pps4 Ns4 ccs4, .agg #[.int .u32 0]]) ?_ rfl ⟨_, rfl, ?_, (((M0.out.trans Ms4.out).set_new (by omega) 0 _).trans (Mv.alloc _ _ _)).drew⟩
    · rw [results_tmp_cell rfl]
      simp [asAddr, Result.andThen, run_loadVar_row _ (w.heap.size + 1 + 1) 59 59 #[.int .u32 0] (0, 0) _ hfin Tryd.underlying59 rfl (by kernel_rfl)]
    · have ho := own_set Os4.out HRr.out (by decide) 0 (Value.int IntKind.u32 0)
      have := World.ownsRow.alloc ho (Obj.cells #[Value.int IntKind.u32 0] 59)
      exact this.drew
set_option maxRecDepth 100000 in
set_option maxHeartbeats 8000000 in
theorem app_sn (w : World) (B : Nat) (v : Value) (xs : List Int) (p0 p1 p2 p3 p4 p5 : Int) (ph : Bool) (c0 c1 c2 c3 c4 c5 : Int) (R o cc : Nat) (hO : OwnB w B v xs) (hB : B ≤ w.heap.size) (hT : TabB w B R o cc) (hxs : xs.length ≤ 33554432)
    (e1 : -4294967296 ≤ c1 - p1 ∧ c1 - p1 ≤ 4294967296) (e2 : -4294967296 ≤ c2 - p2 ∧ c2 - p2 ≤ 4294967296) (e3 : -4294967296 ≤ c3 - p3 ∧ c3 - p3 ≤ 4294967296) (e4 : -4294967296 ≤ c4 - p4 ∧ c4 - p4 ≤ 4294967296) (e5 : -4294967296 ≤ c5 - p5 ∧ c5 - p5 ≤ 4294967296) :
    Calls Tryd.prog 34 #[v, .int .u8 59, .agg (stV p0 p1 p2 p3 p4 p5 ph), .agg (stV c0 c1 c2 c3 c4 c5 true), .bool false] w fun e w' => ∃ v', e = .returned (.tuple #[v', .agg #[.int .u32 (flp ((xs ++ enc (zig (c1 - p1)) ++ enc (zig (c2 - p2)) ++ enc (zig (c3 - p3)) ++ enc (zig (c4 - p4))).length : Nat))]]) ∧ OwnB w' B v' (xs ++ enc (zig (c1 - p1)) ++ enc (zig (c2 - p2)) ++ enc (zig (c3 - p3)) ++ enc (zig (c4 - p4)) ++ enc (zig (c5 - p5))) ∧ Mv w w' v v' := by
  obtain ⟨i0, hin, hz0, hz1, hz2⟩ := info_parts info5
  obtain ⟨W0, hW0⟩ : ∃ W0, ((w.alloc (Obj.cells (stV p0 p1 p2 p3 p4 p5 ph) 32)).alloc (Obj.cells (stV c0 c1 c2 c3 c4 c5 true) 32)).alloc (Obj.cells #[Value.int IntKind.u32 0] 59) = W0 := ⟨_, rfl⟩
  have hb0 : Below w.heap.size w W0 := by rw [← hW0]; exact (((Below.refl _ _).alloc (Nat.le_refl _) _).alloc (by simp) _).alloc (by simp; omega) _
  have hsz : W0.heap.size = w.heap.size + 1 + 1 + 1 := by rw [← hW0]; simp
  have hP : W0.heap[w.heap.size]? = some (Obj.cells (stV p0 p1 p2 p3 p4 p5 ph) 32 (0, 0)) := by
    rw [← hW0, heap_alloc_old _ _ (by simp; omega), heap_alloc_old _ _ (by simp)]; exact heap_alloc_new _ _
  have hC : W0.heap[w.heap.size + 1]? = some (Obj.cells (stV c0 c1 c2 c3 c4 c5 true) 32 (0, 0)) := by
    rw [← hW0, heap_alloc_old _ _ (by simp)]
    have := heap_alloc_new (w.alloc (Obj.cells (stV p0 p1 p2 p3 p4 p5 ph) 32)) (Obj.cells (stV c0 c1 c2 c3 c4 c5 true) 32)
    rw [show (w.alloc (Obj.cells (stV p0 p1 p2 p3 p4 p5 ph) 32)).heap.size = w.heap.size + 1 by simp] at this
    exact this
  have hR : W0.heap[w.heap.size + 1 + 1]? = some (Obj.cells #[Value.int IntKind.u32 0] 59 (0, 0)) := by
    rw [← hW0]
    have := heap_alloc_new ((w.alloc (Obj.cells (stV p0 p1 p2 p3 p4 p5 ph) 32)).alloc (Obj.cells (stV c0 c1 c2 c3 c4 c5 true) 32)) (Obj.cells #[Value.int IntKind.u32 0] 59)
    rw [show ((w.alloc (Obj.cells (stV p0 p1 p2 p3 p4 p5 ph) 32)).alloc (Obj.cells (stV c0 c1 c2 c3 c4 c5 true) 32)).heap.size = w.heap.size + 1 + 1 by simp] at this
    exact this
  have M0 := Lib.hid (Mv.of_below v hb0)
  have HW0 := Lib.hid hW0; have HP := Lib.hid hP; have HC := Lib.hid hC; have HR := Lib.hid hR; have HSZ := Lib.hid hsz
  have HO := Lib.hid (hO.keep hb0); have HT0 := Lib.hid (hT.below (hb0.mono hB)); have HBB := Lib.hid hB
  have HBs := Lib.hid (show B ≤ W0.heap.size from Nat.le_trans hB hb0.size)
  have M := Lib.hid (Mv.refl W0 v)
  clear hP hC hR hb0 hO hT hB hW0 hsz
  go_enter Tryd.func34, Tryd.ntmps34
  go_wp2_with fail
  rw [HW0.out]
  have hl1 : (xs).length ≤ 33554432 + 8 := by simp; omega
  refine (enc36 W0 B _ (xs) (c1 - p1) R o cc HO.out (Nat.le_trans HBs.out M.out.g.size) (HT0.out.below (M.out.below B HBs.out HO.out.lt)) (by omega) e1.1 e1.2).mono ?_
  rintro e ws1 ⟨vs1, rfl, os1, ms1⟩
  obtain ⟨pps1, ccs1, hvs1, _, _⟩ := os1.bytes
  obtain ⟨Ns1, hNs1⟩ : ∃ N, (xs ++ enc (zig (c1 - p1))).length = N := ⟨_, rfl⟩
  rw [hNs1] at hvs1
  subst hvs1
  have hNls1 : Ns1 ≤ 33554432 + 16 := by rw [← hNs1, List.length_append]; have := enc_le (zig (c1 - p1)); omega
  have HNs1 := Lib.hid hNs1
  clear hNs1
  have Os1 := Lib.hid os1; have Ms1 := Lib.hid (M.out.trans ms1)
  clear os1 ms1 hl1
  have q1s1 := fld2 (Ms1.out.keep HO.out HP.out (by decide)); have q2s1 := fld2 (Ms1.out.keep HO.out HC.out (by decide))
  go_wp2_with fail
  have hl2 : (xs ++ enc (zig (c1 - p1))).length ≤ 33554432 + 15 := by simp; have := enc_le (zig (c1 - p1)); omega
  refine (enc36 ws1 B _ (xs ++ enc (zig (c1 - p1))) (c2 - p2) R o cc Os1.out (Nat.le_trans HBs.out Ms1.out.g.size) (HT0.out.below (Ms1.out.below B HBs.out HO.out.lt)) (by omega) e2.1 e2.2).mono ?_
  rintro e ws2 ⟨vs2, rfl, os2, ms2⟩
  obtain ⟨pps2, ccs2, hvs2, _, _⟩ := os2.bytes
  obtain ⟨Ns2, hNs2⟩ : ∃ N, (xs ++ enc (zig (c1 - p1)) ++ enc (zig (c2 - p2))).length = N := ⟨_, rfl⟩
  rw [hNs2] at hvs2
  subst hvs2
  have hNls2 : Ns2 ≤ 33554432 + 23 := by rw [← hNs2, List.length_append]; have := enc_le (zig (c2 - p2)); omega
  have HNs2 := Lib.hid hNs2
  clear hNs2
  have Os2 := Lib.hid os2; have Ms2 := Lib.hid (Ms1.out.trans ms2)
  clear os2 ms2 hl2
  have q1s2 := fld3 (Ms2.out.keep HO.out HP.out (by decide)); have q2s2 := fld3 (Ms2.out.keep HO.out HC.out (by decide))
  go_wp2_with fail
  have hl3 : (xs ++ enc (zig (c1 - p1)) ++ enc (zig (c2 - p2))).length ≤ 33554432 + 22 := by simp; have := enc_le (zig (c1 - p1)); have := enc_le (zig (c2 - p2)); omega
  refine (enc36 ws2 B _ (xs ++ enc (zig (c1 - p1)) ++ enc (zig (c2 - p2))) (c3 - p3) R o cc Os2.out (Nat.le_trans HBs.out Ms2.out.g.size) (HT0.out.below (Ms2.out.below B HBs.out HO.out.lt)) (by omega) e3.1 e3.2).mono ?_
  rintro e ws3 ⟨vs3, rfl, os3, ms3⟩
  obtain ⟨pps3, ccs3, hvs3, _, _⟩ := os3.bytes
  obtain ⟨Ns3, hNs3⟩ : ∃ N, (xs ++ enc (zig (c1 - p1)) ++ enc (zig (c2 - p2)) ++ enc (zig (c3 - p3))).length = N := ⟨_, rfl⟩
  rw [hNs3] at hvs3
  subst hvs3
  have hNls3 : Ns3 ≤ 33554432 + 30 := by rw [← hNs3, List.length_append]; have := enc_le (zig (c3 - p3)); omega
  have HNs3 := Lib.hid hNs3
  clear hNs3
  have Os3 := Lib.hid os3; have Ms3 := Lib.hid (Ms2.out.trans ms3)
  clear os3 ms3 hl3
  have q1s3 := fld4 (Ms3.out.keep HO.out HP.out (by decide)); have q2s3 := fld4 (Ms3.out.keep HO.out HC.out (by decide))
  go_wp2_with fail
  have hl4 : (xs ++ enc (zig (c1 - p1)) ++ enc (zig (c2 - p2)) ++ enc (zig (c3 - p3))).length ≤ 33554432 + 29 := by simp; have := enc_le (zig (c1 - p1)); have := enc_le (zig (c2 - p2)); have := enc_le (zig (c3 - p3)); omega
  refine (enc36 ws3 B _ (xs ++ enc (zig (c1 - p1)) ++ enc (zig (c2 - p2)) ++ enc (zig (c3 - p3))) (c4 - p4) R o cc Os3.out (Nat.le_trans HBs.out Ms3.out.g.size) (HT0.out.below (Ms3.out.below B HBs.out HO.out.lt)) (by omega) e4.1 e4.2).mono ?_
  rintro e ws4 ⟨vs4, rfl, os4, ms4⟩
  obtain ⟨pps4, ccs4, hvs4, _, _⟩ := os4.bytes
  obtain ⟨Ns4, hNs4⟩ : ∃ N, (xs ++ enc (zig (c1 - p1)) ++ enc (zig (c2 - p2)) ++ enc (zig (c3 - p3)) ++ enc (zig (c4 - p4))).length = N := ⟨_, rfl⟩
  rw [hNs4] at hvs4
  subst hvs4
  have hNls4 : Ns4 ≤ 33554432 + 37 := by rw [← hNs4, List.length_append]; have := enc_le (zig (c4 - p4)); omega
  have HNs4 := Lib.hid hNs4
  clear hNs4
  have Os4 := Lib.hid os4; have Ms4 := Lib.hid (Ms3.out.trans ms4)
  clear os4 ms4 hl4
  have MA := Lib.hid (Ms4.out.trans (Mv.alloc ws4 _ (Obj.cells #[Value.int IntKind.u32 0] 59)))
  have hP6 := fld6 (MA.out.keep HO.out HC.out (by decide))
  go_wp2_with fail
  refine (mk37 (Ns4 : Int) _).mono ?_
  rintro e wm ⟨rfl, bm⟩
  obtain ⟨F, hF⟩ : ∃ F, flp (Ns4 : Int) = F := ⟨_, rfl⟩
  rw [hF]
  rw [← HNs4.out] at hF
  have HF := Lib.hid hF
  have hMm := MA.out.trans (Mv.of_below _ bm)
  have hNb := (bm.block ws4.heap.size (by simp)).trans (heap_alloc_new ws4 (Obj.cells #[Value.int IntKind.u32 0] 59))
  have hnlt : w.heap.size + 1 + 1 < ws4.heap.size := (Array.getElem?_eq_some_iff.1 (Ms4.out.keep HO.out HR.out (by decide))).1
  obtain ⟨n1, n2⟩ := ixc hNb
  obtain ⟨WM, hWM⟩ : ∃ WM, wm.setCell ⟨ws4.heap.size, 0, none⟩ (.int .u32 F) = WM := ⟨_, rfl⟩
  have hWs : W0.heap.size ≤ ws4.heap.size := Ms4.out.g.size
  have MM := Lib.hid (show Mv W0 WM v (.slice pps4 Ns4 ccs4) by rw [← hWM]; exact hMm.set_new hWs 0 _)
  have hPm := MM.out.keep HO.out HP.out (by decide)
  have hCm := MM.out.keep HO.out HC.out (by decide)
  have hRm := MM.out.keep HO.out HR.out (by decide)
  have hNm : WM.heap[ws4.heap.size]? = some (Obj.cells #[Value.int IntKind.u32 F] 59 (0, 0)) := by rw [← hWM]; exact ix_set F hNb
  have OA := World.ownsRow.alloc Os4.out (Obj.cells #[Value.int IntKind.u32 0] 59)
  have OM := own_set (OwnB.keep OA bm) hNb (by decide) 0 (.int .u32 F)
  rw [hWM] at OM
  have u1 := fld5 hPm; have u2 := fld5 hCm
  rw [← hWM] at u1 u2
  have HWM := Lib.hid hWM; have HRM := Lib.hid hRm; have HNM := Lib.hid hNm; have HOM := Lib.hid OM
  clear hPm hCm hRm hNm OA OM hWM bm hNb hF hP6 hMm hWs
  dsimp only
  go_wp2_with fail
  rw [HWM.out]
  refine (enc36 WM B _ (xs ++ enc (zig (c1 - p1)) ++ enc (zig (c2 - p2)) ++ enc (zig (c3 - p3)) ++ enc (zig (c4 - p4))) (c5 - p5) R o cc HOM.out (Nat.le_trans HBs.out MM.out.g.size) (HT0.out.below (MM.out.below B HBs.out HO.out.lt)) (by rw [HNs4.out]; omega) e5.1 e5.2).mono ?_
  rintro e w5 ⟨v5, rfl, o5, m5⟩
  have O5 := Lib.hid o5; have M5 := Lib.hid (MM.out.trans m5)
  have hR5 := m5.keep HOM.out HRM.out (by decide)
  obtain ⟨r1, r2⟩ := ixc hR5
  obtain ⟨m1, m2⟩ := ixc (m5.keep HOM.out HNM.out (by decide))
  have HR5 := Lib.hid hR5
  clear o5 m5 hR5 u1 u2 n1 n2
  dsimp only
  go_wp2_with fail
  go_region
  all_goals
    go_wp2
    (try simp only [Exit.inBlock, Exit.then])
    have hfin : (w5.setCell ⟨w.heap.size + 1 + 1, 0, none⟩ (Value.int IntKind.u32 F)).drew.heap[w.heap.size + 1 + 1]? = some (Obj.cells #[Value.int IntKind.u32 F] 59 (0, 0)) := ix_set F HR5.out
    refine bodyPost_ret (v := .tuple #[v5, .agg #[.int .u32 F]]) ?_ rfl ⟨_, by rw [← HF.out], ?_, ((M0.out.trans M5.out).set_new (by omega) 0 _).drew⟩
    · rw [results_tmp_cell rfl]
      simp [asAddr, Result.andThen, run_loadVar_row _ (w.heap.size + 1 + 1) 59 59 #[.int .u32 F] (0, 0) _ hfin Tryd.underlying59 rfl (by kernel_rfl)]
    · have ho := own_set O5.out HR5.out (by decide) 0 (Value.int IntKind.u32 F)
      exact World.ownsRow.drew ho
end Go.Proofs.YtlplikpjnocdfaaDoor
