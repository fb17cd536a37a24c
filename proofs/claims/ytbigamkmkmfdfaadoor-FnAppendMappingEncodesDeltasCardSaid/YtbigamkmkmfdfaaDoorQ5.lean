/-
  appendMappingToBuffer: what it writes; and the small functions around it.
-/
import Derived.Test.YtbigamkmkmfdfaaDoorQ3
namespace Go.Proofs.YtbigamkmkmfdfaaDoor
open Go.ChangeShapes Go.WideShapes Go.ChangeAt Go.RowKit
set_option linter.unusedVariables false
set_option maxRecDepth 100000 in
set_option maxHeartbeats 8000000 in
theorem apq_zop (K n : Nat) (kc : Array Value) (w : World) (B : Nat) (v : Value) (xs : List Int) (p0 p1 p2 p3 p4 p5 : Int) (ph : Bool) (c0 c1 c2 c3 c4 c5 : Int) (R o cc : Nat) (hO : OwnB w B v xs) (hB : B ≤ w.heap.size) (hT : TabB w B R o cc) (hA : Away K kc n w v) (hn : n ≤ xs.length) (hxs : xs.length ≤ 2097152)
    (e1 : -1073741824 ≤ c1 - p1 ∧ c1 - p1 ≤ 1073741824) (e2 : -1073741824 ≤ c2 - p2 ∧ c2 - p2 ≤ 1073741824) (e3 : -1073741824 ≤ c3 - p3 ∧ c3 - p3 ≤ 1073741824) (e4 : -1073741824 ≤ c4 - p4 ∧ c4 - p4 ≤ 1073741824) (e5 : -1073741824 ≤ c5 - p5 ∧ c5 - p5 ≤ 1073741824) :
    Calls Tryd.prog 36 #[v, .int .u8 0, .agg (stV p0 p1 p2 p3 p4 p5 ph), .agg (stV c0 c1 c2 c3 c4 c5 false), .bool true] w fun e w' => (∃ v', e = .returned (.tuple #[v', .agg #[.int .u32 (0)]]) ∧ OwnB w' B v' (xs ++ enc (zig (c1 - p1))) ∧ Away K kc n w' v') ∧ Below B w w' ∧ Keep5 w w' := by
  obtain ⟨i0, hin, hz0, hz1, hz2⟩ := info_parts info5
  obtain ⟨W0, hW0⟩ : ∃ W0, ((w.alloc (Obj.cells (stV p0 p1 p2 p3 p4 p5 ph) 41)).alloc (Obj.cells (stV c0 c1 c2 c3 c4 c5 false) 41)).alloc (Obj.cells #[Value.int IntKind.u32 0] 45) = W0 := ⟨_, rfl⟩
  have hb0 : Below w.heap.size w W0 := by rw [← hW0]; exact (((Below.refl _ _).alloc (Nat.le_refl _) _).alloc (by simp) _).alloc (by simp; omega) _
  have hsz : W0.heap.size = w.heap.size + 1 + 1 + 1 := by rw [← hW0]; simp
  have hP : W0.heap[w.heap.size]? = some (Obj.cells (stV p0 p1 p2 p3 p4 p5 ph) 41 (0, 0)) := by
    rw [← hW0, heap_alloc_old _ _ (by simp; omega), heap_alloc_old _ _ (by simp)]; exact heap_alloc_new _ _
  have hC : W0.heap[w.heap.size + 1]? = some (Obj.cells (stV c0 c1 c2 c3 c4 c5 false) 41 (0, 0)) := by
    rw [← hW0, heap_alloc_old _ _ (by simp)]
    have := heap_alloc_new (w.alloc (Obj.cells (stV p0 p1 p2 p3 p4 p5 ph) 41)) (Obj.cells (stV c0 c1 c2 c3 c4 c5 false) 41)
    rw [show (w.alloc (Obj.cells (stV p0 p1 p2 p3 p4 p5 ph) 41)).heap.size = w.heap.size + 1 by simp] at this
    exact this
  have hR : W0.heap[w.heap.size + 1 + 1]? = some (Obj.cells #[Value.int IntKind.u32 0] 45 (0, 0)) := by
    rw [← hW0]
    have := heap_alloc_new ((w.alloc (Obj.cells (stV p0 p1 p2 p3 p4 p5 ph) 41)).alloc (Obj.cells (stV c0 c1 c2 c3 c4 c5 false) 41)) (Obj.cells #[Value.int IntKind.u32 0] 45)
    rw [show ((w.alloc (Obj.cells (stV p0 p1 p2 p3 p4 p5 ph) 41)).alloc (Obj.cells (stV c0 c1 c2 c3 c4 c5 false) 41)).heap.size = w.heap.size + 1 + 1 by simp] at this
    exact this
  have HW0 := Lib.hid hW0; have HP := Lib.hid hP; have HC := Lib.hid hC; have HR := Lib.hid hR; have HSZ := Lib.hid hsz
  have HO := Lib.hid (hO.keep hb0); have HT0 := Lib.hid hT; have HBB := Lib.hid hB; have KB := Lib.hid (hb0.mono hB)
  have HBs := Lib.hid (show B ≤ W0.heap.size from Nat.le_trans hB hb0.size)
  have KK := Lib.hid (Keep5.refl W0)
  have HA := Lib.hid (hA.keep hb0); clear hA
  have K0 := Lib.hid (show Keep5 w W0 by rw [← HW0.out]; exact ((keep_alloc w _).trans (keep_alloc _ _)).trans (keep_alloc _ _))
  clear hP hC hR hb0 hO hT hB hW0 hsz
  go_enter Tryd.func36, Tryd.ntmps36
  go_wp2_with fail
  rw [HW0.out]
  have hl1 : (xs).length ≤ 2097152 + 8 := by simp; omega
  refine (enc33a K n kc W0 B _ (xs) (c1 - p1) R o cc HO.out (Nat.le_trans HBB.out (by have := KB.out.size; omega)) (HT0.out.below KB.out) HA.out (by first | omega | (simp; omega)) (by omega) e1.1 e1.2).mono ?_
  rintro e ws1 ⟨vs1, rfl, os1, bs1, ks1, as1⟩
  obtain ⟨pps1, ccs1, hvs1, _, _⟩ := os1.bytes
  obtain ⟨Ns1, hNs1⟩ : ∃ N, (xs ++ enc (zig (c1 - p1))).length = N := ⟨_, rfl⟩
  rw [hNs1] at hvs1
  subst hvs1
  have hNls1 : Ns1 ≤ 2097152 + 16 := by rw [← hNs1, List.length_append]; have := enc_le (zig (c1 - p1)); omega
  have HNs1 := Lib.hid hNs1
  clear hNs1
  have Os1 := Lib.hid os1; have KBs1 := Lib.hid (KB.out.trans bs1); have KKs1 := Lib.hid (KK.out.trans ks1); have AAs1 := Lib.hid as1
  clear os1 bs1 ks1 as1 hl1
  have hP6 := fld6 ((keep_alloc ws1 (Obj.cells #[Value.int IntKind.u32 0] 45)) _ _ _ _ (by decide) (KKs1.out _ _ _ _ (by decide) HC.out))
  go_wp2_with fail
  have hRr := KKs1.out _ _ _ _ (by decide) HR.out
  have hrlt : w.heap.size + 1 + 1 < ws1.heap.size := (Array.getElem?_eq_some_iff.1 hRr).1
  have hRa := (keep_alloc ws1 (Obj.cells #[Value.int IntKind.u32 0] 45)) _ _ _ _ (by decide) hRr
  obtain ⟨r1, r2⟩ := ixc hRa
  have HRr := Lib.hid hRr
  clear hRr hRa
  go_region
  all_goals
    go_wp2
    (try simp only [Exit.inBlock, Exit.then])
    have hfin : ((ws1.setCell ⟨w.heap.size + 1 + 1, 0, none⟩ (Value.int IntKind.u32 0)).alloc (Obj.cells #[Value.int IntKind.u32 0] 45)).drew.heap[w.heap.size + 1 + 1]? = some (Obj.cells #[Value.int IntKind.u32 0] 45 (0, 0)) := by
      show ((ws1.setCell ⟨w.heap.size + 1 + 1, 0, none⟩ (Value.int IntKind.u32 0)).alloc (Obj.cells #[Value.int IntKind.u32 0] 45)).heap[w.heap.size + 1 + 1]? = _
      rw [heap_alloc_old _ _ (by simpa [World.setCell] using hrlt)]
      exact ix_set 0 HRr.out
    refine bodyPost_ret (v := .tuple #[.slice pps1 Ns1 ccs1, .agg #[.int .u32 0]]) ?_ rfl ⟨⟨_, rfl, ?_, ((AAs1.out.set HRr.out (by decide) _).alloc _).drew⟩, ((KBs1.out.setCell (by have := HBB.out; simp; omega) _).alloc (Nat.le_trans HBB.out (by have := KBs1.out.size; simp [World.setCell]; omega)) _).drew, (keep_set_new (K0.out.trans KKs1.out) (by omega) _).trans (keep_alloc _ _)⟩
    · rw [results_tmp_cell rfl]
      simp [asAddr, Result.andThen, run_loadVar_row _ (w.heap.size + 1 + 1) 45 45 #[.int .u32 0] (0, 0) _ hfin Tryd.underlying45 rfl (by kernel_rfl)]
    · have ho := own_set Os1.out HRr.out (by decide) (Value.int IntKind.u32 0)
      have := World.ownsRow.alloc ho (Obj.cells #[Value.int IntKind.u32 0] 45)
      exact this.drew
set_option maxRecDepth 100000 in
set_option maxHeartbeats 8000000 in
theorem apq_zon (K n : Nat) (kc : Array Value) (w : World) (B : Nat) (v : Value) (xs : List Int) (p0 p1 p2 p3 p4 p5 : Int) (ph : Bool) (c0 c1 c2 c3 c4 c5 : Int) (R o cc : Nat) (hO : OwnB w B v xs) (hB : B ≤ w.heap.size) (hT : TabB w B R o cc) (hA : Away K kc n w v) (hn : n ≤ xs.length) (hxs : xs.length ≤ 2097152)
    (e1 : -1073741824 ≤ c1 - p1 ∧ c1 - p1 ≤ 1073741824) (e2 : -1073741824 ≤ c2 - p2 ∧ c2 - p2 ≤ 1073741824) (e3 : -1073741824 ≤ c3 - p3 ∧ c3 - p3 ≤ 1073741824) (e4 : -1073741824 ≤ c4 - p4 ∧ c4 - p4 ≤ 1073741824) (e5 : -1073741824 ≤ c5 - p5 ∧ c5 - p5 ≤ 1073741824) :
    Calls Tryd.prog 36 #[v, .int .u8 0, .agg (stV p0 p1 p2 p3 p4 p5 ph), .agg (stV c0 c1 c2 c3 c4 c5 true), .bool true] w fun e w' => (∃ v', e = .returned (.tuple #[v', .agg #[.int .u32 (flp ((xs ++ enc (zig (c1 - p1))).length : Nat))]]) ∧ OwnB w' B v' (xs ++ enc (zig (c1 - p1)) ++ enc (zig (c5 - p5))) ∧ Away K kc n w' v') ∧ Below B w w' ∧ Keep5 w w' := by
  obtain ⟨i0, hin, hz0, hz1, hz2⟩ := info_parts info5
  obtain ⟨W0, hW0⟩ : ∃ W0, ((w.alloc (Obj.cells (stV p0 p1 p2 p3 p4 p5 ph) 41)).alloc (Obj.cells (stV c0 c1 c2 c3 c4 c5 true) 41)).alloc (Obj.cells #[Value.int IntKind.u32 0] 45) = W0 := ⟨_, rfl⟩
  have hb0 : Below w.heap.size w W0 := by rw [← hW0]; exact (((Below.refl _ _).alloc (Nat.le_refl _) _).alloc (by simp) _).alloc (by simp; omega) _
  have hsz : W0.heap.size = w.heap.size + 1 + 1 + 1 := by rw [← hW0]; simp
  have hP : W0.heap[w.heap.size]? = some (Obj.cells (stV p0 p1 p2 p3 p4 p5 ph) 41 (0, 0)) := by
    rw [← hW0, heap_alloc_old _ _ (by simp; omega), heap_alloc_old _ _ (by simp)]; exact heap_alloc_new _ _
  have hC : W0.heap[w.heap.size + 1]? = some (Obj.cells (stV c0 c1 c2 c3 c4 c5 true) 41 (0, 0)) := by
    rw [← hW0, heap_alloc_old _ _ (by simp)]
    have := heap_alloc_new (w.alloc (Obj.cells (stV p0 p1 p2 p3 p4 p5 ph) 41)) (Obj.cells (stV c0 c1 c2 c3 c4 c5 true) 41)
    rw [show (w.alloc (Obj.cells (stV p0 p1 p2 p3 p4 p5 ph) 41)).heap.size = w.heap.size + 1 by simp] at this
    exact this
  have hR : W0.heap[w.heap.size + 1 + 1]? = some (Obj.cells #[Value.int IntKind.u32 0] 45 (0, 0)) := by
    rw [← hW0]
    have := heap_alloc_new ((w.alloc (Obj.cells (stV p0 p1 p2 p3 p4 p5 ph) 41)).alloc (Obj.cells (stV c0 c1 c2 c3 c4 c5 true) 41)) (Obj.cells #[Value.int IntKind.u32 0] 45)
    rw [show ((w.alloc (Obj.cells (stV p0 p1 p2 p3 p4 p5 ph) 41)).alloc (Obj.cells (stV c0 c1 c2 c3 c4 c5 true) 41)).heap.size = w.heap.size + 1 + 1 by simp] at this
    exact this
  have HW0 := Lib.hid hW0; have HP := Lib.hid hP; have HC := Lib.hid hC; have HR := Lib.hid hR; have HSZ := Lib.hid hsz
  have HO := Lib.hid (hO.keep hb0); have HT0 := Lib.hid hT; have HBB := Lib.hid hB; have KB := Lib.hid (hb0.mono hB)
  have HBs := Lib.hid (show B ≤ W0.heap.size from Nat.le_trans hB hb0.size)
  have KK := Lib.hid (Keep5.refl W0)
  have HA := Lib.hid (hA.keep hb0); clear hA
  have K0 := Lib.hid (show Keep5 w W0 by rw [← HW0.out]; exact ((keep_alloc w _).trans (keep_alloc _ _)).trans (keep_alloc _ _))
  clear hP hC hR hb0 hO hT hB hW0 hsz
  go_enter Tryd.func36, Tryd.ntmps36
  go_wp2_with fail
  rw [HW0.out]
  have hl1 : (xs).length ≤ 2097152 + 8 := by simp; omega
  refine (enc33a K n kc W0 B _ (xs) (c1 - p1) R o cc HO.out (Nat.le_trans HBB.out (by have := KB.out.size; omega)) (HT0.out.below KB.out) HA.out (by first | omega | (simp; omega)) (by omega) e1.1 e1.2).mono ?_
  rintro e ws1 ⟨vs1, rfl, os1, bs1, ks1, as1⟩
  obtain ⟨pps1, ccs1, hvs1, _, _⟩ := os1.bytes
  obtain ⟨Ns1, hNs1⟩ : ∃ N, (xs ++ enc (zig (c1 - p1))).length = N := ⟨_, rfl⟩
  rw [hNs1] at hvs1
  subst hvs1
  have hNls1 : Ns1 ≤ 2097152 + 16 := by rw [← hNs1, List.length_append]; have := enc_le (zig (c1 - p1)); omega
  have HNs1 := Lib.hid hNs1
  clear hNs1
  have Os1 := Lib.hid os1; have KBs1 := Lib.hid (KB.out.trans bs1); have KKs1 := Lib.hid (KK.out.trans ks1); have AAs1 := Lib.hid as1
  clear os1 bs1 ks1 as1 hl1
  have hP6 := fld6 ((keep_alloc ws1 (Obj.cells #[Value.int IntKind.u32 0] 45)) _ _ _ _ (by decide) (KKs1.out _ _ _ _ (by decide) HC.out))
  go_wp2_with fail
  refine (mk40 (Ns1 : Int) _).mono ?_
  rintro e wm ⟨rfl, bm, km⟩
  obtain ⟨F, hF⟩ : ∃ F, flp (Ns1 : Int) = F := ⟨_, rfl⟩
  rw [hF]
  rw [← HNs1.out] at hF
  have HF := Lib.hid hF
  have KKm := Lib.hid ((KKs1.out.trans (keep_alloc ws1 (Obj.cells #[Value.int IntKind.u32 0] 45))).trans km)
  have hNb := km _ _ _ _ (by decide) (heap_alloc_new ws1 (Obj.cells #[Value.int IntKind.u32 0] 45))
  have hnlt : w.heap.size + 1 + 1 < ws1.heap.size := (Array.getElem?_eq_some_iff.1 (KKs1.out _ _ _ _ (by decide) HR.out)).1
  obtain ⟨n1, n2⟩ := ixc hNb
  obtain ⟨WM, hWM⟩ : ∃ WM, wm.setCell ⟨ws1.heap.size, 0, none⟩ (.int .u32 F) = WM := ⟨_, rfl⟩
  have hPm : WM.heap[w.heap.size]? = some (Obj.cells (stV p0 p1 p2 p3 p4 p5 ph) 41 (0, 0)) := by rw [← hWM, heap_set_other _ (by omega)]; exact KKm.out _ _ _ _ (by decide) HP.out
  have hCm : WM.heap[w.heap.size + 1]? = some (Obj.cells (stV c0 c1 c2 c3 c4 c5 true) 41 (0, 0)) := by rw [← hWM, heap_set_other _ (by omega)]; exact KKm.out _ _ _ _ (by decide) HC.out
  have hRm : WM.heap[w.heap.size + 1 + 1]? = some (Obj.cells #[Value.int IntKind.u32 0] 45 (0, 0)) := by rw [← hWM, heap_set_other _ (by omega)]; exact KKm.out _ _ _ _ (by decide) HR.out
  have hNm : WM.heap[ws1.heap.size]? = some (Obj.cells #[Value.int IntKind.u32 F] 45 (0, 0)) := by rw [← hWM]; exact ix_set F hNb
  have OA := World.ownsRow.alloc Os1.out (Obj.cells #[Value.int IntKind.u32 0] 45)
  have OM := own_set (OwnB.keep OA bm) hNb (by decide) (.int .u32 F)
  rw [hWM] at OM
  have bA : Below B ws1 (ws1.alloc (Obj.cells #[Value.int IntKind.u32 0] 45)) := below_alloc1 _ _ (Nat.le_trans HBB.out (by have := KBs1.out.size; omega)) _
  have bM : Below B w WM := by rw [← hWM]; exact ((KBs1.out.trans bA).trans (bm.mono (Nat.le_trans HBB.out (by have := KBs1.out.size; simp; omega)))).setCell (Nat.le_trans HBB.out KBs1.out.size) _
  have HKM := Lib.hid (show Keep5 w WM by rw [← hWM]; exact keep_set_new (K0.out.trans KKm.out) KBs1.out.size _)
  have HAM := Lib.hid (show Away K kc n WM _ by rw [← hWM]; exact ((AAs1.out.alloc (Obj.cells #[Value.int IntKind.u32 0] 45)).keep bm).set hNb (by decide) _)
  have u1 := fld5 hPm; have u2 := fld5 hCm
  rw [← hWM] at u1 u2
  have HWM := Lib.hid hWM; have HRM := Lib.hid hRm; have HNM := Lib.hid hNm; have HOM := Lib.hid OM; have HBM := Lib.hid bM
  clear hPm hCm hRm hNm OA OM bA bM hWM bm km hNb hF hP6
  dsimp only
  go_wp2_with fail
  rw [HWM.out]
  refine (enc33a K n kc WM B _ (xs ++ enc (zig (c1 - p1))) (c5 - p5) R o cc HOM.out (Nat.le_trans HBB.out HBM.out.size) (HT0.out.below HBM.out) HAM.out (by first | omega | (simp; omega)) (by rw [HNs1.out]; omega) e5.1 e5.2).mono ?_
  rintro e w5 ⟨v5, rfl, o5, b5, k5, a5⟩
  have O5 := Lib.hid o5; have KB5 := Lib.hid (HBM.out.trans b5); have K5 := Lib.hid k5; have A5 := Lib.hid a5
  have hR5 := k5 _ _ _ _ (by decide) HRM.out
  obtain ⟨r1, r2⟩ := ixc hR5
  obtain ⟨m1, m2⟩ := ixc (k5 _ _ _ _ (by decide) HNM.out)
  have HR5 := Lib.hid hR5
  clear o5 b5 k5 a5 hR5 u1 u2 n1 n2
  dsimp only
  go_wp2_with fail
  go_region
  all_goals
    go_wp2
    (try simp only [Exit.inBlock, Exit.then])
    have hfin : (w5.setCell ⟨w.heap.size + 1 + 1, 0, none⟩ (Value.int IntKind.u32 F)).drew.heap[w.heap.size + 1 + 1]? = some (Obj.cells #[Value.int IntKind.u32 F] 45 (0, 0)) := ix_set F HR5.out
    refine bodyPost_ret (v := .tuple #[v5, .agg #[.int .u32 F]]) ?_ rfl ⟨⟨_, by rw [← HF.out], ?_, (A5.out.set HR5.out (by decide) _).drew⟩, (KB5.out.setCell (by have := HBB.out; simp; omega) _).drew, keep_set_new (HKM.out.trans K5.out) (by omega) _⟩
    · rw [results_tmp_cell rfl]
      simp [asAddr, Result.andThen, run_loadVar_row _ (w.heap.size + 1 + 1) 45 45 #[.int .u32 F] (0, 0) _ hfin Tryd.underlying45 rfl (by kernel_rfl)]
    · have ho := own_set O5.out HR5.out (by decide) (Value.int IntKind.u32 F)
      exact World.ownsRow.drew ho
set_option maxRecDepth 100000 in
set_option maxHeartbeats 8000000 in
theorem apq_zfp (K n : Nat) (kc : Array Value) (w : World) (B : Nat) (v : Value) (xs : List Int) (p0 p1 p2 p3 p4 p5 : Int) (ph : Bool) (c0 c1 c2 c3 c4 c5 : Int) (R o cc : Nat) (hO : OwnB w B v xs) (hB : B ≤ w.heap.size) (hT : TabB w B R o cc) (hA : Away K kc n w v) (hn : n ≤ xs.length) (hxs : xs.length ≤ 2097152)
    (e1 : -1073741824 ≤ c1 - p1 ∧ c1 - p1 ≤ 1073741824) (e2 : -1073741824 ≤ c2 - p2 ∧ c2 - p2 ≤ 1073741824) (e3 : -1073741824 ≤ c3 - p3 ∧ c3 - p3 ≤ 1073741824) (e4 : -1073741824 ≤ c4 - p4 ∧ c4 - p4 ≤ 1073741824) (e5 : -1073741824 ≤ c5 - p5 ∧ c5 - p5 ≤ 1073741824) :
    Calls Tryd.prog 36 #[v, .int .u8 0, .agg (stV p0 p1 p2 p3 p4 p5 ph), .agg (stV c0 c1 c2 c3 c4 c5 false), .bool false] w fun e w' => (∃ v', e = .returned (.tuple #[v', .agg #[.int .u32 (0)]]) ∧ OwnB w' B v' (xs ++ enc (zig (c1 - p1)) ++ enc (zig (c2 - p2)) ++ enc (zig (c3 - p3)) ++ enc (zig (c4 - p4))) ∧ Away K kc n w' v') ∧ Below B w w' ∧ Keep5 w w' := by
  obtain ⟨i0, hin, hz0, hz1, hz2⟩ := info_parts info5
  obtain ⟨W0, hW0⟩ : ∃ W0, ((w.alloc (Obj.cells (stV p0 p1 p2 p3 p4 p5 ph) 41)).alloc (Obj.cells (stV c0 c1 c2 c3 c4 c5 false) 41)).alloc (Obj.cells #[Value.int IntKind.u32 0] 45) = W0 := ⟨_, rfl⟩
  have hb0 : Below w.heap.size w W0 := by rw [← hW0]; exact (((Below.refl _ _).alloc (Nat.le_refl _) _).alloc (by simp) _).alloc (by simp; omega) _
  have hsz : W0.heap.size = w.heap.size + 1 + 1 + 1 := by rw [← hW0]; simp
  have hP : W0.heap[w.heap.size]? = some (Obj.cells (stV p0 p1 p2 p3 p4 p5 ph) 41 (0, 0)) := by
    rw [← hW0, heap_alloc_old _ _ (by simp; omega), heap_alloc_old _ _ (by simp)]; exact heap_alloc_new _ _
  have hC : W0.heap[w.heap.size + 1]? = some (Obj.cells (stV c0 c1 c2 c3 c4 c5 false) 41 (0, 0)) := by
    rw [← hW0, heap_alloc_old _ _ (by simp)]
    have := heap_alloc_new (w.alloc (Obj.cells (stV p0 p1 p2 p3 p4 p5 ph) 41)) (Obj.cells (stV c0 c1 c2 c3 c4 c5 false) 41)
    rw [show (w.alloc (Obj.cells (stV p0 p1 p2 p3 p4 p5 ph) 41)).heap.size = w.heap.size + 1 by simp] at this
    exact this
  have hR : W0.heap[w.heap.size + 1 + 1]? = some (Obj.cells #[Value.int IntKind.u32 0] 45 (0, 0)) := by
    rw [← hW0]
    have := heap_alloc_new ((w.alloc (Obj.cells (stV p0 p1 p2 p3 p4 p5 ph) 41)).alloc (Obj.cells (stV c0 c1 c2 c3 c4 c5 false) 41)) (Obj.cells #[Value.int IntKind.u32 0] 45)
    rw [show ((w.alloc (Obj.cells (stV p0 p1 p2 p3 p4 p5 ph) 41)).alloc (Obj.cells (stV c0 c1 c2 c3 c4 c5 false) 41)).heap.size = w.heap.size + 1 + 1 by simp] at this
    exact this
  have HW0 := Lib.hid hW0; have HP := Lib.hid hP; have HC := Lib.hid hC; have HR := Lib.hid hR; have HSZ := Lib.hid hsz
  have HO := Lib.hid (hO.keep hb0); have HT0 := Lib.hid hT; have HBB := Lib.hid hB; have KB := Lib.hid (hb0.mono hB)
  have HBs := Lib.hid (show B ≤ W0.heap.size from Nat.le_trans hB hb0.size)
  have KK := Lib.hid (Keep5.refl W0)
  have HA := Lib.hid (hA.keep hb0); clear hA
  have K0 := Lib.hid (show Keep5 w W0 by rw [← HW0.out]; exact ((keep_alloc w _).trans (keep_alloc _ _)).trans (keep_alloc _ _))
  clear hP hC hR hb0 hO hT hB hW0 hsz
  go_enter Tryd.func36, Tryd.ntmps36
  go_wp2_with fail
  rw [HW0.out]
  have hl1 : (xs).length ≤ 2097152 + 8 := by simp; omega
  refine (enc33a K n kc W0 B _ (xs) (c1 - p1) R o cc HO.out (Nat.le_trans HBB.out (by have := KB.out.size; omega)) (HT0.out.below KB.out) HA.out (by first | omega | (simp; omega)) (by omega) e1.1 e1.2).mono ?_
  rintro e ws1 ⟨vs1, rfl, os1, bs1, ks1, as1⟩
  obtain ⟨pps1, ccs1, hvs1, _, _⟩ := os1.bytes
  obtain ⟨Ns1, hNs1⟩ : ∃ N, (xs ++ enc (zig (c1 - p1))).length = N := ⟨_, rfl⟩
  rw [hNs1] at hvs1
  subst hvs1
  have hNls1 : Ns1 ≤ 2097152 + 16 := by rw [← hNs1, List.length_append]; have := enc_le (zig (c1 - p1)); omega
  have HNs1 := Lib.hid hNs1
  clear hNs1
  have Os1 := Lib.hid os1; have KBs1 := Lib.hid (KB.out.trans bs1); have KKs1 := Lib.hid (KK.out.trans ks1); have AAs1 := Lib.hid as1
  clear os1 bs1 ks1 as1 hl1
  have q1s1 := fld2 (KKs1.out _ _ _ _ (by decide) HP.out); have q2s1 := fld2 (KKs1.out _ _ _ _ (by decide) HC.out)
  go_wp2_with fail
  have hl2 : (xs ++ enc (zig (c1 - p1))).length ≤ 2097152 + 15 := by simp; have := enc_le (zig (c1 - p1)); omega
  refine (enc33a K n kc ws1 B _ (xs ++ enc (zig (c1 - p1))) (c2 - p2) R o cc Os1.out (Nat.le_trans HBB.out (by have := KBs1.out.size; omega)) (HT0.out.below KBs1.out) AAs1.out (by first | omega | (simp; omega)) (by omega) e2.1 e2.2).mono ?_
  rintro e ws2 ⟨vs2, rfl, os2, bs2, ks2, as2⟩
  obtain ⟨pps2, ccs2, hvs2, _, _⟩ := os2.bytes
  obtain ⟨Ns2, hNs2⟩ : ∃ N, (xs ++ enc (zig (c1 - p1)) ++ enc (zig (c2 - p2))).length = N := ⟨_, rfl⟩
  rw [hNs2] at hvs2
  subst hvs2
  have hNls2 : Ns2 ≤ 2097152 + 23 := by rw [← hNs2, List.length_append]; have := enc_le (zig (c2 - p2)); omega
  have HNs2 := Lib.hid hNs2
  clear hNs2
  have Os2 := Lib.hid os2; have KBs2 := Lib.hid (KBs1.out.trans bs2); have KKs2 := Lib.hid (KKs1.out.trans ks2); have AAs2 := Lib.hid as2
  clear os2 bs2 ks2 as2 hl2
  have q1s2 := fld3 (KKs2.out _ _ _ _ (by decide) HP.out); have q2s2 := fld3 (KKs2.out _ _ _ _ (by decide) HC.out)
  go_wp2_with fail
  have hl3 : (xs ++ enc (zig (c1 - p1)) ++ enc (zig (c2 - p2))).length ≤ 2097152 + 22 := by simp; have := enc_le (zig (c1 - p1)); have := enc_le (zig (c2 - p2)); omega
  refine (enc33a K n kc ws2 B _ (xs ++ enc (zig (c1 - p1)) ++ enc (zig (c2 - p2))) (c3 - p3) R o cc Os2.out (Nat.le_trans HBB.out (by have := KBs2.out.size; omega)) (HT0.out.below KBs2.out) AAs2.out (by first | omega | (simp; omega)) (by omega) e3.1 e3.2).mono ?_
  rintro e ws3 ⟨vs3, rfl, os3, bs3, ks3, as3⟩
  obtain ⟨pps3, ccs3, hvs3, _, _⟩ := os3.bytes
  obtain ⟨Ns3, hNs3⟩ : ∃ N, (xs ++ enc (zig (c1 - p1)) ++ enc (zig (c2 - p2)) ++ enc (zig (c3 - p3))).length = N := ⟨_, rfl⟩
  rw [hNs3] at hvs3
  subst hvs3
  have hNls3 : Ns3 ≤ 2097152 + 30 := by rw [← hNs3, List.length_append]; have := enc_le (zig (c3 - p3)); omega
  have HNs3 := Lib.hid hNs3
  clear hNs3
  have Os3 := Lib.hid os3; have KBs3 := Lib.hid (KBs2.out.trans bs3); have KKs3 := Lib.hid (KKs2.out.trans ks3); have AAs3 := Lib.hid as3
  clear os3 bs3 ks3 as3 hl3
  have q1s3 := fld4 (KKs3.out _ _ _ _ (by decide) HP.out); have q2s3 := fld4 (KKs3.out _ _ _ _ (by decide) HC.out)
  go_wp2_with fail
  have hl4 : (xs ++ enc (zig (c1 - p1)) ++ enc (zig (c2 - p2)) ++ enc (zig (c3 - p3))).length ≤ 2097152 + 29 := by simp; have := enc_le (zig (c1 - p1)); have := enc_le (zig (c2 - p2)); have := enc_le (zig (c3 - p3)); omega
  refine (enc33a K n kc ws3 B _ (xs ++ enc (zig (c1 - p1)) ++ enc (zig (c2 - p2)) ++ enc (zig (c3 - p3))) (c4 - p4) R o cc Os3.out (Nat.le_trans HBB.out (by have := KBs3.out.size; omega)) (HT0.out.below KBs3.out) AAs3.out (by first | omega | (simp; omega)) (by omega) e4.1 e4.2).mono ?_
  rintro e ws4 ⟨vs4, rfl, os4, bs4, ks4, as4⟩
  obtain ⟨pps4, ccs4, hvs4, _, _⟩ := os4.bytes
  obtain ⟨Ns4, hNs4⟩ : ∃ N, (xs ++ enc (zig (c1 - p1)) ++ enc (zig (c2 - p2)) ++ enc (zig (c3 - p3)) ++ enc (zig (c4 - p4))).length = N := ⟨_, rfl⟩
  rw [hNs4] at hvs4
  subst hvs4
  have hNls4 : Ns4 ≤ 2097152 + 37 := by rw [← hNs4, List.length_append]; have := enc_le (zig (c4 - p4)); omega
  have HNs4 := Lib.hid hNs4
  clear hNs4
  have Os4 := Lib.hid os4; have KBs4 := Lib.hid (KBs3.out.trans bs4); have KKs4 := Lib.hid (KKs3.out.trans ks4); have AAs4 := Lib.hid as4
  clear os4 bs4 ks4 as4 hl4
  have hP6 := fld6 ((keep_alloc ws4 (Obj.cells #[Value.int IntKind.u32 0] 45)) _ _ _ _ (by decide) (KKs4.out _ _ _ _ (by decide) HC.out))
  go_wp2_with fail
  have hRr := KKs4.out _ _ _ _ (by decide) HR.out
  have hrlt : w.heap.size + 1 + 1 < ws4.heap.size := (Array.getElem?_eq_some_iff.1 hRr).1
  have hRa := (keep_alloc ws4 (Obj.cells #[Value.int IntKind.u32 0] 45)) _ _ _ _ (by decide) hRr
  obtain ⟨r1, r2⟩ := ixc hRa
  have HRr := Lib.hid hRr
  clear hRr hRa
  go_region
  all_goals
    go_wp2
    (try simp only [Exit.inBlock, Exit.then])
    have hfin : ((ws4.setCell ⟨w.heap.size + 1 + 1, 0, none⟩ (Value.int IntKind.u32 0)).alloc (Obj.cells #[Value.int IntKind.u32 0] 45)).drew.heap[w.heap.size + 1 + 1]? = some (Obj.cells #[Value.int IntKind.u32 0] 45 (0, 0)) := by
      show ((ws4.setCell ⟨w.heap.size + 1 + 1, 0, none⟩ (Value.int IntKind.u32 0)).alloc (Obj.cells #[Value.int IntKind.u32 0] 45)).heap[w.heap.size + 1 + 1]? = _
      rw [heap_alloc_old _ _ (by simpa [World.setCell] using hrlt)]
      exact ix_set 0 HRr.out
    refine bodyPost_ret (v := .tuple #[.slice pps4 Ns4 ccs4, .agg #[.int .u32 0]]) ?_ rfl ⟨⟨_, rfl, ?_, ((AAs4.out.set HRr.out (by decide) _).alloc _).drew⟩, ((KBs4.out.setCell (by have := HBB.out; simp; omega) _).alloc (Nat.le_trans HBB.out (by have := KBs4.out.size; simp [World.setCell]; omega)) _).drew, (keep_set_new (K0.out.trans KKs4.out) (by omega) _).trans (keep_alloc _ _)⟩
    · rw [results_tmp_cell rfl]
      simp [asAddr, Result.andThen, run_loadVar_row _ (w.heap.size + 1 + 1) 45 45 #[.int .u32 0] (0, 0) _ hfin Tryd.underlying45 rfl (by kernel_rfl)]
    · have ho := own_set Os4.out HRr.out (by decide) (Value.int IntKind.u32 0)
      have := World.ownsRow.alloc ho (Obj.cells #[Value.int IntKind.u32 0] 45)
      exact this.drew
set_option maxRecDepth 100000 in
set_option maxHeartbeats 8000000 in
theorem apq_zfn (K n : Nat) (kc : Array Value) (w : World) (B : Nat) (v : Value) (xs : List Int) (p0 p1 p2 p3 p4 p5 : Int) (ph : Bool) (c0 c1 c2 c3 c4 c5 : Int) (R o cc : Nat) (hO : OwnB w B v xs) (hB : B ≤ w.heap.size) (hT : TabB w B R o cc) (hA : Away K kc n w v) (hn : n ≤ xs.length) (hxs : xs.length ≤ 2097152)
    (e1 : -1073741824 ≤ c1 - p1 ∧ c1 - p1 ≤ 1073741824) (e2 : -1073741824 ≤ c2 - p2 ∧ c2 - p2 ≤ 1073741824) (e3 : -1073741824 ≤ c3 - p3 ∧ c3 - p3 ≤ 1073741824) (e4 : -1073741824 ≤ c4 - p4 ∧ c4 - p4 ≤ 1073741824) (e5 : -1073741824 ≤ c5 - p5 ∧ c5 - p5 ≤ 1073741824) :
    Calls Tryd.prog 36 #[v, .int .u8 0, .agg (stV p0 p1 p2 p3 p4 p5 ph), .agg (stV c0 c1 c2 c3 c4 c5 true), .bool false] w fun e w' => (∃ v', e = .returned (.tuple #[v', .agg #[.int .u32 (flp ((xs ++ enc (zig (c1 - p1)) ++ enc (zig (c2 - p2)) ++ enc (zig (c3 - p3)) ++ enc (zig (c4 - p4))).length : Nat))]]) ∧ OwnB w' B v' (xs ++ enc (zig (c1 - p1)) ++ enc (zig (c2 - p2)) ++ enc (zig (c3 - p3)) ++ enc (zig (c4 - p4)) ++ enc (zig (c5 - p5))) ∧ Away K kc n w' v') ∧ Below B w w' ∧ Keep5 w w' := by
  obtain ⟨i0, hin, hz0, hz1, hz2⟩ := info_parts info5
  obtain ⟨W0, hW0⟩ : ∃ W0, ((w.alloc (Obj.cells (stV p0 p1 p2 p3 p4 p5 ph) 41)).alloc (Obj.cells (stV c0 c1 c2 c3 c4 c5 true) 41)).alloc (Obj.cells #[Value.int IntKind.u32 0] 45) = W0 := ⟨_, rfl⟩
  have hb0 : Below w.heap.size w W0 := by rw [← hW0]; exact (((Below.refl _ _).alloc (Nat.le_refl _) _).alloc (by simp) _).alloc (by simp; omega) _
  have hsz : W0.heap.size = w.heap.size + 1 + 1 + 1 := by rw [← hW0]; simp
  have hP : W0.heap[w.heap.size]? = some (Obj.cells (stV p0 p1 p2 p3 p4 p5 ph) 41 (0, 0)) := by
    rw [← hW0, heap_alloc_old _ _ (by simp; omega), heap_alloc_old _ _ (by simp)]; exact heap_alloc_new _ _
  have hC : W0.heap[w.heap.size + 1]? = some (Obj.cells (stV c0 c1 c2 c3 c4 c5 true) 41 (0, 0)) := by
    rw [← hW0, heap_alloc_old _ _ (by simp)]
    have := heap_alloc_new (w.alloc (Obj.cells (stV p0 p1 p2 p3 p4 p5 ph) 41)) (Obj.cells (stV c0 c1 c2 c3 c4 c5 true) 41)
    rw [show (w.alloc (Obj.cells (stV p0 p1 p2 p3 p4 p5 ph) 41)).heap.size = w.heap.size + 1 by simp] at this
    exact this
  have hR : W0.heap[w.heap.size + 1 + 1]? = some (Obj.cells #[Value.int IntKind.u32 0] 45 (0, 0)) := by
    rw [← hW0]
    have := heap_alloc_new ((w.alloc (Obj.cells (stV p0 p1 p2 p3 p4 p5 ph) 41)).alloc (Obj.cells (stV c0 c1 c2 c3 c4 c5 true) 41)) (Obj.cells #[Value.int IntKind.u32 0] 45)
    rw [show ((w.alloc (Obj.cells (stV p0 p1 p2 p3 p4 p5 ph) 41)).alloc (Obj.cells (stV c0 c1 c2 c3 c4 c5 true) 41)).heap.size = w.heap.size + 1 + 1 by simp] at this
    exact this
  have HW0 := Lib.hid hW0; have HP := Lib.hid hP; have HC := Lib.hid hC; have HR := Lib.hid hR; have HSZ := Lib.hid hsz
  have HO := Lib.hid (hO.keep hb0); have HT0 := Lib.hid hT; have HBB := Lib.hid hB; have KB := Lib.hid (hb0.mono hB)
  have HBs := Lib.hid (show B ≤ W0.heap.size from Nat.le_trans hB hb0.size)
  have KK := Lib.hid (Keep5.refl W0)
  have HA := Lib.hid (hA.keep hb0); clear hA
  have K0 := Lib.hid (show Keep5 w W0 by rw [← HW0.out]; exact ((keep_alloc w _).trans (keep_alloc _ _)).trans (keep_alloc _ _))
  clear hP hC hR hb0 hO hT hB hW0 hsz
  go_enter Tryd.func36, Tryd.ntmps36
  go_wp2_with fail
  rw [HW0.out]
  have hl1 : (xs).length ≤ 2097152 + 8 := by simp; omega
  refine (enc33a K n kc W0 B _ (xs) (c1 - p1) R o cc HO.out (Nat.le_trans HBB.out (by have := KB.out.size; omega)) (HT0.out.below KB.out) HA.out (by first | omega | (simp; omega)) (by omega) e1.1 e1.2).mono ?_
  rintro e ws1 ⟨vs1, rfl, os1, bs1, ks1, as1⟩
  obtain ⟨pps1, ccs1, hvs1, _, _⟩ := os1.bytes
  obtain ⟨Ns1, hNs1⟩ : ∃ N, (xs ++ enc (zig (c1 - p1))).length = N := ⟨_, rfl⟩
  rw [hNs1] at hvs1
  subst hvs1
  have hNls1 : Ns1 ≤ 2097152 + 16 := by rw [← hNs1, List.length_append]; have := enc_le (zig (c1 - p1)); omega
  have HNs1 := Lib.hid hNs1
  clear hNs1
  have Os1 := Lib.hid os1; have KBs1 := Lib.hid (KB.out.trans bs1); have KKs1 := Lib.hid (KK.out.trans ks1); have AAs1 := Lib.hid as1
  clear os1 bs1 ks1 as1 hl1
  have q1s1 := fld2 (KKs1.out _ _ _ _ (by decide) HP.out); have q2s1 := fld2 (KKs1.out _ _ _ _ (by decide) HC.out)
  go_wp2_with fail
  have hl2 : (xs ++ enc (zig (c1 - p1))).length ≤ 2097152 + 15 := by simp; have := enc_le (zig (c1 - p1)); omega
  refine (enc33a K n kc ws1 B _ (xs ++ enc (zig (c1 - p1))) (c2 - p2) R o cc Os1.out (Nat.le_trans HBB.out (by have := KBs1.out.size; omega)) (HT0.out.below KBs1.out) AAs1.out (by first | omega | (simp; omega)) (by omega) e2.1 e2.2).mono ?_
  rintro e ws2 ⟨vs2, rfl, os2, bs2, ks2, as2⟩
  obtain ⟨pps2, ccs2, hvs2, _, _⟩ := os2.bytes
  obtain ⟨Ns2, hNs2⟩ : ∃ N, (xs ++ enc (zig (c1 - p1)) ++ enc (zig (c2 - p2))).length = N := ⟨_, rfl⟩
  rw [hNs2] at hvs2
  subst hvs2
  have hNls2 : Ns2 ≤ 2097152 + 23 := by rw [← hNs2, List.length_append]; have := enc_le (zig (c2 - p2)); omega
  have HNs2 := Lib.hid hNs2
  clear hNs2
  have Os2 := Lib.hid os2; have KBs2 := Lib.hid (KBs1.out.trans bs2); have KKs2 := Lib.hid (KKs1.out.trans ks2); have AAs2 := Lib.hid as2
  clear os2 bs2 ks2 as2 hl2
  have q1s2 := fld3 (KKs2.out _ _ _ _ (by decide) HP.out); have q2s2 := fld3 (KKs2.out _ _ _ _ (by decide) HC.out)
  go_wp2_with fail
  have hl3 : (xs ++ enc (zig (c1 - p1)) ++ enc (zig (c2 - p2))).length ≤ 2097152 + 22 := by simp; have := enc_le (zig (c1 - p1)); have := enc_le (zig (c2 - p2)); omega
  refine (enc33a K n kc ws2 B _ (xs ++ enc (zig (c1 - p1)) ++ enc (zig (c2 - p2))) (c3 - p3) R o cc Os2.out (Nat.le_trans HBB.out (by have := KBs2.out.size; omega)) (HT0.out.below KBs2.out) AAs2.out (by first | omega | (simp; omega)) (by omega) e3.1 e3.2).mono ?_
  rintro e ws3 ⟨vs3, rfl, os3, bs3, ks3, as3⟩
  obtain ⟨pps3, ccs3, hvs3, _, _⟩ := os3.bytes
  obtain ⟨Ns3, hNs3⟩ : ∃ N, (xs ++ enc (zig (c1 - p1)) ++ enc (zig (c2 - p2)) ++ enc (zig (c3 - p3))).length = N := ⟨_, rfl⟩
  rw [hNs3] at hvs3
  subst hvs3
  have hNls3 : Ns3 ≤ 2097152 + 30 := by rw [← hNs3, List.length_append]; have := enc_le (zig (c3 - p3)); omega
  have HNs3 := Lib.hid hNs3
  clear hNs3
  have Os3 := Lib.hid os3; have KBs3 := Lib.hid (KBs2.out.trans bs3); have KKs3 := Lib.hid (KKs2.out.trans ks3); have AAs3 := Lib.hid as3
  clear os3 bs3 ks3 as3 hl3
  have q1s3 := fld4 (KKs3.out _ _ _ _ (by decide) HP.out); have q2s3 := fld4 (KKs3.out _ _ _ _ (by decide) HC.out)
  go_wp2_with fail
  have hl4 : (xs ++ enc (zig (c1 - p1)) ++ enc (zig (c2 - p2)) ++ enc (zig (c3 - p3))).length ≤ 2097152 + 29 := by simp; have := enc_le (zig (c1 - p1)); have := enc_le (zig (c2 - p2)); have := enc_le (zig (c3 - p3)); omega
  refine (enc33a K n kc ws3 B _ (xs ++ enc (zig (c1 - p1)) ++ enc (zig (c2 - p2)) ++ enc (zig (c3 - p3))) (c4 - p4) R o cc Os3.out (Nat.le_trans HBB.out (by have := KBs3.out.size; omega)) (HT0.out.below KBs3.out) AAs3.out (by first | omega | (simp; omega)) (by omega) e4.1 e4.2).mono ?_
  rintro e ws4 ⟨vs4, rfl, os4, bs4, ks4, as4⟩
  obtain ⟨pps4, ccs4, hvs4, _, _⟩ := os4.bytes
  obtain ⟨Ns4, hNs4⟩ : ∃ N, (xs ++ enc (zig (c1 - p1)) ++ enc (zig (c2 - p2)) ++ enc (zig (c3 - p3)) ++ enc (zig (c4 - p4))).length = N := ⟨_, rfl⟩
  rw [hNs4] at hvs4
  subst hvs4
  have hNls4 : Ns4 ≤ 2097152 + 37 := by rw [← hNs4, List.length_append]; have := enc_le (zig (c4 - p4)); omega
  have HNs4 := Lib.hid hNs4
  clear hNs4
  have Os4 := Lib.hid os4; have KBs4 := Lib.hid (KBs3.out.trans bs4); have KKs4 := Lib.hid (KKs3.out.trans ks4); have AAs4 := Lib.hid as4
  clear os4 bs4 ks4 as4 hl4
  have hP6 := fld6 ((keep_alloc ws4 (Obj.cells #[Value.int IntKind.u32 0] 45)) _ _ _ _ (by decide) (KKs4.out _ _ _ _ (by decide) HC.out))
  go_wp2_with fail
  refine (mk40 (Ns4 : Int) _).mono ?_
  rintro e wm ⟨rfl, bm, km⟩
  obtain ⟨F, hF⟩ : ∃ F, flp (Ns4 : Int) = F := ⟨_, rfl⟩
  rw [hF]
  rw [← HNs4.out] at hF
  have HF := Lib.hid hF
  have KKm := Lib.hid ((KKs4.out.trans (keep_alloc ws4 (Obj.cells #[Value.int IntKind.u32 0] 45))).trans km)
  have hNb := km _ _ _ _ (by decide) (heap_alloc_new ws4 (Obj.cells #[Value.int IntKind.u32 0] 45))
  have hnlt : w.heap.size + 1 + 1 < ws4.heap.size := (Array.getElem?_eq_some_iff.1 (KKs4.out _ _ _ _ (by decide) HR.out)).1
  obtain ⟨n1, n2⟩ := ixc hNb
  obtain ⟨WM, hWM⟩ : ∃ WM, wm.setCell ⟨ws4.heap.size, 0, none⟩ (.int .u32 F) = WM := ⟨_, rfl⟩
  have hPm : WM.heap[w.heap.size]? = some (Obj.cells (stV p0 p1 p2 p3 p4 p5 ph) 41 (0, 0)) := by rw [← hWM, heap_set_other _ (by omega)]; exact KKm.out _ _ _ _ (by decide) HP.out
  have hCm : WM.heap[w.heap.size + 1]? = some (Obj.cells (stV c0 c1 c2 c3 c4 c5 true) 41 (0, 0)) := by rw [← hWM, heap_set_other _ (by omega)]; exact KKm.out _ _ _ _ (by decide) HC.out
  have hRm : WM.heap[w.heap.size + 1 + 1]? = some (Obj.cells #[Value.int IntKind.u32 0] 45 (0, 0)) := by rw [← hWM, heap_set_other _ (by omega)]; exact KKm.out _ _ _ _ (by decide) HR.out
  have hNm : WM.heap[ws4.heap.size]? = some (Obj.cells #[Value.int IntKind.u32 F] 45 (0, 0)) := by rw [← hWM]; exact ix_set F hNb
  have OA := World.ownsRow.alloc Os4.out (Obj.cells #[Value.int IntKind.u32 0] 45)
  have OM := own_set (OwnB.keep OA bm) hNb (by decide) (.int .u32 F)
  rw [hWM] at OM
  have bA : Below B ws4 (ws4.alloc (Obj.cells #[Value.int IntKind.u32 0] 45)) := below_alloc1 _ _ (Nat.le_trans HBB.out (by have := KBs4.out.size; omega)) _
  have bM : Below B w WM := by rw [← hWM]; exact ((KBs4.out.trans bA).trans (bm.mono (Nat.le_trans HBB.out (by have := KBs4.out.size; simp; omega)))).setCell (Nat.le_trans HBB.out KBs4.out.size) _
  have HKM := Lib.hid (show Keep5 w WM by rw [← hWM]; exact keep_set_new (K0.out.trans KKm.out) KBs4.out.size _)
  have HAM := Lib.hid (show Away K kc n WM _ by rw [← hWM]; exact ((AAs4.out.alloc (Obj.cells #[Value.int IntKind.u32 0] 45)).keep bm).set hNb (by decide) _)
  have u1 := fld5 hPm; have u2 := fld5 hCm
  rw [← hWM] at u1 u2
  have HWM := Lib.hid hWM; have HRM := Lib.hid hRm; have HNM := Lib.hid hNm; have HOM := Lib.hid OM; have HBM := Lib.hid bM
  clear hPm hCm hRm hNm OA OM bA bM hWM bm km hNb hF hP6
  dsimp only
  go_wp2_with fail
  rw [HWM.out]
  refine (enc33a K n kc WM B _ (xs ++ enc (zig (c1 - p1)) ++ enc (zig (c2 - p2)) ++ enc (zig (c3 - p3)) ++ enc (zig (c4 - p4))) (c5 - p5) R o cc HOM.out (Nat.le_trans HBB.out HBM.out.size) (HT0.out.below HBM.out) HAM.out (by first | omega | (simp; omega)) (by rw [HNs4.out]; omega) e5.1 e5.2).mono ?_
  rintro e w5 ⟨v5, rfl, o5, b5, k5, a5⟩
  have O5 := Lib.hid o5; have KB5 := Lib.hid (HBM.out.trans b5); have K5 := Lib.hid k5; have A5 := Lib.hid a5
  have hR5 := k5 _ _ _ _ (by decide) HRM.out
  obtain ⟨r1, r2⟩ := ixc hR5
  obtain ⟨m1, m2⟩ := ixc (k5 _ _ _ _ (by decide) HNM.out)
  have HR5 := Lib.hid hR5
  clear o5 b5 k5 a5 hR5 u1 u2 n1 n2
  dsimp only
  go_wp2_with fail
  go_region
  all_goals
    go_wp2
    (try simp only [Exit.inBlock, Exit.then])
    have hfin : (w5.setCell ⟨w.heap.size + 1 + 1, 0, none⟩ (Value.int IntKind.u32 F)).drew.heap[w.heap.size + 1 + 1]? = some (Obj.cells #[Value.int IntKind.u32 F] 45 (0, 0)) := ix_set F HR5.out
    refine bodyPost_ret (v := .tuple #[v5, .agg #[.int .u32 F]]) ?_ rfl ⟨⟨_, by rw [← HF.out], ?_, (A5.out.set HR5.out (by decide) _).drew⟩, (KB5.out.setCell (by have := HBB.out; simp; omega) _).drew, keep_set_new (HKM.out.trans K5.out) (by omega) _⟩
    · rw [results_tmp_cell rfl]
      simp [asAddr, Result.andThen, run_loadVar_row _ (w.heap.size + 1 + 1) 45 45 #[.int .u32 F] (0, 0) _ hfin Tryd.underlying45 rfl (by kernel_rfl)]
    · have ho := own_set O5.out HR5.out (by decide) (Value.int IntKind.u32 F)
      exact World.ownsRow.drew ho
set_option maxRecDepth 100000 in
set_option maxHeartbeats 8000000 in
theorem apq_sop (K n : Nat) (kc : Array Value) (w : World) (B : Nat) (v : Value) (xs : List Int) (p0 p1 p2 p3 p4 p5 : Int) (ph : Bool) (c0 c1 c2 c3 c4 c5 : Int) (R o cc : Nat) (hO : OwnB w B v xs) (hB : B ≤ w.heap.size) (hT : TabB w B R o cc) (hA : Away K kc n w v) (hn : n ≤ xs.length) (hxs : xs.length ≤ 2097152)
    (e1 : -1073741824 ≤ c1 - p1 ∧ c1 - p1 ≤ 1073741824) (e2 : -1073741824 ≤ c2 - p2 ∧ c2 - p2 ≤ 1073741824) (e3 : -1073741824 ≤ c3 - p3 ∧ c3 - p3 ≤ 1073741824) (e4 : -1073741824 ≤ c4 - p4 ∧ c4 - p4 ≤ 1073741824) (e5 : -1073741824 ≤ c5 - p5 ∧ c5 - p5 ≤ 1073741824) :
    Calls Tryd.prog 36 #[v, .int .u8 59, .agg (stV p0 p1 p2 p3 p4 p5 ph), .agg (stV c0 c1 c2 c3 c4 c5 false), .bool true] w fun e w' => (∃ v', e = .returned (.tuple #[v', .agg #[.int .u32 (0)]]) ∧ OwnB w' B v' (xs ++ enc (zig (c1 - p1))) ∧ Away K kc n w' v') ∧ Below B w w' ∧ Keep5 w w' := by
  obtain ⟨i0, hin, hz0, hz1, hz2⟩ := info_parts info5
  obtain ⟨W0, hW0⟩ : ∃ W0, ((w.alloc (Obj.cells (stV p0 p1 p2 p3 p4 p5 ph) 41)).alloc (Obj.cells (stV c0 c1 c2 c3 c4 c5 false) 41)).alloc (Obj.cells #[Value.int IntKind.u32 0] 45) = W0 := ⟨_, rfl⟩
  have hb0 : Below w.heap.size w W0 := by rw [← hW0]; exact (((Below.refl _ _).alloc (Nat.le_refl _) _).alloc (by simp) _).alloc (by simp; omega) _
  have hsz : W0.heap.size = w.heap.size + 1 + 1 + 1 := by rw [← hW0]; simp
  have hP : W0.heap[w.heap.size]? = some (Obj.cells (stV p0 p1 p2 p3 p4 p5 ph) 41 (0, 0)) := by
    rw [← hW0, heap_alloc_old _ _ (by simp; omega), heap_alloc_old _ _ (by simp)]; exact heap_alloc_new _ _
  have hC : W0.heap[w.heap.size + 1]? = some (Obj.cells (stV c0 c1 c2 c3 c4 c5 false) 41 (0, 0)) := by
    rw [← hW0, heap_alloc_old _ _ (by simp)]
    have := heap_alloc_new (w.alloc (Obj.cells (stV p0 p1 p2 p3 p4 p5 ph) 41)) (Obj.cells (stV c0 c1 c2 c3 c4 c5 false) 41)
    rw [show (w.alloc (Obj.cells (stV p0 p1 p2 p3 p4 p5 ph) 41)).heap.size = w.heap.size + 1 by simp] at this
    exact this
  have hR : W0.heap[w.heap.size + 1 + 1]? = some (Obj.cells #[Value.int IntKind.u32 0] 45 (0, 0)) := by
    rw [← hW0]
    have := heap_alloc_new ((w.alloc (Obj.cells (stV p0 p1 p2 p3 p4 p5 ph) 41)).alloc (Obj.cells (stV c0 c1 c2 c3 c4 c5 false) 41)) (Obj.cells #[Value.int IntKind.u32 0] 45)
    rw [show ((w.alloc (Obj.cells (stV p0 p1 p2 p3 p4 p5 ph) 41)).alloc (Obj.cells (stV c0 c1 c2 c3 c4 c5 false) 41)).heap.size = w.heap.size + 1 + 1 by simp] at this
    exact this
  have HW0 := Lib.hid hW0; have HP := Lib.hid hP; have HC := Lib.hid hC; have HR := Lib.hid hR; have HSZ := Lib.hid hsz
  have HO := Lib.hid (hO.keep hb0); have HT0 := Lib.hid hT; have HBB := Lib.hid hB; have KB := Lib.hid (hb0.mono hB)
  have HBs := Lib.hid (show B ≤ W0.heap.size from Nat.le_trans hB hb0.size)
  have KK := Lib.hid (Keep5.refl W0)
  have HA := Lib.hid (hA.keep hb0); clear hA
  have K0 := Lib.hid (show Keep5 w W0 by rw [← HW0.out]; exact ((keep_alloc w _).trans (keep_alloc _ _)).trans (keep_alloc _ _))
  clear hP hC hR hb0 hO hT hB hW0 hsz
  go_enter Tryd.func36, Tryd.ntmps36
  go_wp2_with fail
  rw [HW0.out]
  have hl1 : (xs).length ≤ 2097152 + 8 := by simp; omega
  refine (enc33a K n kc W0 B _ (xs) (c1 - p1) R o cc HO.out (Nat.le_trans HBB.out (by have := KB.out.size; omega)) (HT0.out.below KB.out) HA.out (by first | omega | (simp; omega)) (by omega) e1.1 e1.2).mono ?_
  rintro e ws1 ⟨vs1, rfl, os1, bs1, ks1, as1⟩
  obtain ⟨pps1, ccs1, hvs1, _, _⟩ := os1.bytes
  obtain ⟨Ns1, hNs1⟩ : ∃ N, (xs ++ enc (zig (c1 - p1))).length = N := ⟨_, rfl⟩
  rw [hNs1] at hvs1
  subst hvs1
  have hNls1 : Ns1 ≤ 2097152 + 16 := by rw [← hNs1, List.length_append]; have := enc_le (zig (c1 - p1)); omega
  have HNs1 := Lib.hid hNs1
  clear hNs1
  have Os1 := Lib.hid os1; have KBs1 := Lib.hid (KB.out.trans bs1); have KKs1 := Lib.hid (KK.out.trans ks1); have AAs1 := Lib.hid as1
  clear os1 bs1 ks1 as1 hl1
  have hP6 := fld6 ((keep_alloc ws1 (Obj.cells #[Value.int IntKind.u32 0] 45)) _ _ _ _ (by decide) (KKs1.out _ _ _ _ (by decide) HC.out))
  go_wp2_with fail
  have hRr := KKs1.out _ _ _ _ (by decide) HR.out
  have hrlt : w.heap.size + 1 + 1 < ws1.heap.size := (Array.getElem?_eq_some_iff.1 hRr).1
  have hRa := (keep_alloc ws1 (Obj.cells #[Value.int IntKind.u32 0] 45)) _ _ _ _ (by decide) hRr
  obtain ⟨r1, r2⟩ := ixc hRa
  have HRr := Lib.hid hRr
  clear hRr hRa
  go_region
  all_goals
    go_wp2
    (try simp only [Exit.inBlock, Exit.then])
    have hfin : ((ws1.setCell ⟨w.heap.size + 1 + 1, 0, none⟩ (Value.int IntKind.u32 0)).alloc (Obj.cells #[Value.int IntKind.u32 0] 45)).drew.heap[w.heap.size + 1 + 1]? = some (Obj.cells #[Value.int IntKind.u32 0] 45 (0, 0)) := by
      show ((ws1.setCell ⟨w.heap.size + 1 + 1, 0, none⟩ (Value.int IntKind.u32 0)).alloc (Obj.cells #[Value.int IntKind.u32 0] 45)).heap[w.heap.size + 1 + 1]? = _
      rw [heap_alloc_old _ _ (by simpa [World.setCell] using hrlt)]
      exact ix_set 0 HRr.out
    refine bodyPost_ret (v := .tuple #[.slice pps1 Ns1 ccs1, .agg #[.int .u32 0]]) ?_ rfl ⟨⟨_, rfl, ?_, ((AAs1.out.set HRr.out (by decide) _).alloc _).drew⟩, ((KBs1.out.setCell (by have := HBB.out; simp; omega) _).alloc (Nat.le_trans HBB.out (by have := KBs1.out.size; simp [World.setCell]; omega)) _).drew, (keep_set_new (K0.out.trans KKs1.out) (by omega) _).trans (keep_alloc _ _)⟩
    · rw [results_tmp_cell rfl]
      simp [asAddr, Result.andThen, run_loadVar_row _ (w.heap.size + 1 + 1) 45 45 #[.int .u32 0] (0, 0) _ hfin Tryd.underlying45 rfl (by kernel_rfl)]
    · have ho := own_set Os1.out HRr.out (by decide) (Value.int IntKind.u32 0)
      have := World.ownsRow.alloc ho (Obj.cells #[Value.int IntKind.u32 0] 45)
      exact this.drew
set_option maxRecDepth 100000 in
set_option maxHeartbeats 8000000 in
theorem apq_son (K n : Nat) (kc : Array Value) (w : World) (B : Nat) (v : Value) (xs : List Int) (p0 p1 p2 p3 p4 p5 : Int) (ph : Bool) (c0 c1 c2 c3 c4 c5 : Int) (R o cc : Nat) (hO : OwnB w B v xs) (hB : B ≤ w.heap.size) (hT : TabB w B R o cc) (hA : Away K kc n w v) (hn : n ≤ xs.length) (hxs : xs.length ≤ 2097152)
    (e1 : -1073741824 ≤ c1 - p1 ∧ c1 - p1 ≤ 1073741824) (e2 : -1073741824 ≤ c2 - p2 ∧ c2 - p2 ≤ 1073741824) (e3 : -1073741824 ≤ c3 - p3 ∧ c3 - p3 ≤ 1073741824) (e4 : -1073741824 ≤ c4 - p4 ∧ c4 - p4 ≤ 1073741824) (e5 : -1073741824 ≤ c5 - p5 ∧ c5 - p5 ≤ 1073741824) :
    Calls Tryd.prog 36 #[v, .int .u8 59, .agg (stV p0 p1 p2 p3 p4 p5 ph), .agg (stV c0 c1 c2 c3 c4 c5 true), .bool true] w fun e w' => (∃ v', e = .returned (.tuple #[v', .agg #[.int .u32 (flp ((xs ++ enc (zig (c1 - p1))).length : Nat))]]) ∧ OwnB w' B v' (xs ++ enc (zig (c1 - p1)) ++ enc (zig (c5 - p5))) ∧ Away K kc n w' v') ∧ Below B w w' ∧ Keep5 w w' := by
  obtain ⟨i0, hin, hz0, hz1, hz2⟩ := info_parts info5
  obtain ⟨W0, hW0⟩ : ∃ W0, ((w.alloc (Obj.cells (stV p0 p1 p2 p3 p4 p5 ph) 41)).alloc (Obj.cells (stV c0 c1 c2 c3 c4 c5 true) 41)).alloc (Obj.cells #[Value.int IntKind.u32 0] 45) = W0 := ⟨_, rfl⟩
  have hb0 : Below w.heap.size w W0 := by rw [← hW0]; exact (((Below.refl _ _).alloc (Nat.le_refl _) _).alloc (by simp) _).alloc (by simp; omega) _
  have hsz : W0.heap.size = w.heap.size + 1 + 1 + 1 := by rw [← hW0]; simp
  have hP : W0.heap[w.heap.size]? = some (Obj.cells (stV p0 p1 p2 p3 p4 p5 ph) 41 (0, 0)) := by
    rw [← hW0, heap_alloc_old _ _ (by simp; omega), heap_alloc_old _ _ (by simp)]; exact heap_alloc_new _ _
  have hC : W0.heap[w.heap.size + 1]? = some (Obj.cells (stV c0 c1 c2 c3 c4 c5 true) 41 (0, 0)) := by
    rw [← hW0, heap_alloc_old _ _ (by simp)]
    have := heap_alloc_new (w.alloc (Obj.cells (stV p0 p1 p2 p3 p4 p5 ph) 41)) (Obj.cells (stV c0 c1 c2 c3 c4 c5 true) 41)
    rw [show (w.alloc (Obj.cells (stV p0 p1 p2 p3 p4 p5 ph) 41)).heap.size = w.heap.size + 1 by simp] at this
    exact this
  have hR : W0.heap[w.heap.size + 1 + 1]? = some (Obj.cells #[Value.int IntKind.u32 0] 45 (0, 0)) := by
    rw [← hW0]
    have := heap_alloc_new ((w.alloc (Obj.cells (stV p0 p1 p2 p3 p4 p5 ph) 41)).alloc (Obj.cells (stV c0 c1 c2 c3 c4 c5 true) 41)) (Obj.cells #[Value.int IntKind.u32 0] 45)
    rw [show ((w.alloc (Obj.cells (stV p0 p1 p2 p3 p4 p5 ph) 41)).alloc (Obj.cells (stV c0 c1 c2 c3 c4 c5 true) 41)).heap.size = w.heap.size + 1 + 1 by simp] at this
    exact this
  have HW0 := Lib.hid hW0; have HP := Lib.hid hP; have HC := Lib.hid hC; have HR := Lib.hid hR; have HSZ := Lib.hid hsz
  have HO := Lib.hid (hO.keep hb0); have HT0 := Lib.hid hT; have HBB := Lib.hid hB; have KB := Lib.hid (hb0.mono hB)
  have HBs := Lib.hid (show B ≤ W0.heap.size from Nat.le_trans hB hb0.size)
  have KK := Lib.hid (Keep5.refl W0)
  have HA := Lib.hid (hA.keep hb0); clear hA
  have K0 := Lib.hid (show Keep5 w W0 by rw [← HW0.out]; exact ((keep_alloc w _).trans (keep_alloc _ _)).trans (keep_alloc _ _))
  clear hP hC hR hb0 hO hT hB hW0 hsz
  go_enter Tryd.func36, Tryd.ntmps36
  go_wp2_with fail
  rw [HW0.out]
  have hl1 : (xs).length ≤ 2097152 + 8 := by simp; omega
  refine (enc33a K n kc W0 B _ (xs) (c1 - p1) R o cc HO.out (Nat.le_trans HBB.out (by have := KB.out.size; omega)) (HT0.out.below KB.out) HA.out (by first | omega | (simp; omega)) (by omega) e1.1 e1.2).mono ?_
  rintro e ws1 ⟨vs1, rfl, os1, bs1, ks1, as1⟩
  obtain ⟨pps1, ccs1, hvs1, _, _⟩ := os1.bytes
  obtain ⟨Ns1, hNs1⟩ : ∃ N, (xs ++ enc (zig (c1 - p1))).length = N := ⟨_, rfl⟩
  rw [hNs1] at hvs1
  subst hvs1
  have hNls1 : Ns1 ≤ 2097152 + 16 := by rw [← hNs1, List.length_append]; have := enc_le (zig (c1 - p1)); omega
  have HNs1 := Lib.hid hNs1
  clear hNs1
  have Os1 := Lib.hid os1; have KBs1 := Lib.hid (KB.out.trans bs1); have KKs1 := Lib.hid (KK.out.trans ks1); have AAs1 := Lib.hid as1
  clear os1 bs1 ks1 as1 hl1
  have hP6 := fld6 ((keep_alloc ws1 (Obj.cells #[Value.int IntKind.u32 0] 45)) _ _ _ _ (by decide) (KKs1.out _ _ _ _ (by decide) HC.out))
  go_wp2_with fail
  refine (mk40 (Ns1 : Int) _).mono ?_
  rintro e wm ⟨rfl, bm, km⟩
  obtain ⟨F, hF⟩ : ∃ F, flp (Ns1 : Int) = F := ⟨_, rfl⟩
  rw [hF]
  rw [← HNs1.out] at hF
  have HF := Lib.hid hF
  have KKm := Lib.hid ((KKs1.out.trans (keep_alloc ws1 (Obj.cells #[Value.int IntKind.u32 0] 45))).trans km)
  have hNb := km _ _ _ _ (by decide) (heap_alloc_new ws1 (Obj.cells #[Value.int IntKind.u32 0] 45))
  have hnlt : w.heap.size + 1 + 1 < ws1.heap.size := (Array.getElem?_eq_some_iff.1 (KKs1.out _ _ _ _ (by decide) HR.out)).1
  obtain ⟨n1, n2⟩ := ixc hNb
  obtain ⟨WM, hWM⟩ : ∃ WM, wm.setCell ⟨ws1.heap.size, 0, none⟩ (.int .u32 F) = WM := ⟨_, rfl⟩
  have hPm : WM.heap[w.heap.size]? = some (Obj.cells (stV p0 p1 p2 p3 p4 p5 ph) 41 (0, 0)) := by rw [← hWM, heap_set_other _ (by omega)]; exact KKm.out _ _ _ _ (by decide) HP.out
  have hCm : WM.heap[w.heap.size + 1]? = some (Obj.cells (stV c0 c1 c2 c3 c4 c5 true) 41 (0, 0)) := by rw [← hWM, heap_set_other _ (by omega)]; exact KKm.out _ _ _ _ (by decide) HC.out
  have hRm : WM.heap[w.heap.size + 1 + 1]? = some (Obj.cells #[Value.int IntKind.u32 0] 45 (0, 0)) := by rw [← hWM, heap_set_other _ (by omega)]; exact KKm.out _ _ _ _ (by decide) HR.out
  have hNm : WM.heap[ws1.heap.size]? = some (Obj.cells #[Value.int IntKind.u32 F] 45 (0, 0)) := by rw [← hWM]; exact ix_set F hNb
  have OA := World.ownsRow.alloc Os1.out (Obj.cells #[Value.int IntKind.u32 0] 45)
  have OM := own_set (OwnB.keep OA bm) hNb (by decide) (.int .u32 F)
  rw [hWM] at OM
  have bA : Below B ws1 (ws1.alloc (Obj.cells #[Value.int IntKind.u32 0] 45)) := below_alloc1 _ _ (Nat.le_trans HBB.out (by have := KBs1.out.size; omega)) _
  have bM : Below B w WM := by rw [← hWM]; exact ((KBs1.out.trans bA).trans (bm.mono (Nat.le_trans HBB.out (by have := KBs1.out.size; simp; omega)))).setCell (Nat.le_trans HBB.out KBs1.out.size) _
  have HKM := Lib.hid (show Keep5 w WM by rw [← hWM]; exact keep_set_new (K0.out.trans KKm.out) KBs1.out.size _)
  have HAM := Lib.hid (show Away K kc n WM _ by rw [← hWM]; exact ((AAs1.out.alloc (Obj.cells #[Value.int IntKind.u32 0] 45)).keep bm).set hNb (by decide) _)
  have u1 := fld5 hPm; have u2 := fld5 hCm
  rw [← hWM] at u1 u2
  have HWM := Lib.hid hWM; have HRM := Lib.hid hRm; have HNM := Lib.hid hNm; have HOM := Lib.hid OM; have HBM := Lib.hid bM
  clear hPm hCm hRm hNm OA OM bA bM hWM bm km hNb hF hP6
  dsimp only
  go_wp2_with fail
  rw [HWM.out]
  refine (enc33a K n kc WM B _ (xs ++ enc (zig (c1 - p1))) (c5 - p5) R o cc HOM.out (Nat.le_trans HBB.out HBM.out.size) (HT0.out.below HBM.out) HAM.out (by first | omega | (simp; omega)) (by rw [HNs1.out]; omega) e5.1 e5.2).mono ?_
  rintro e w5 ⟨v5, rfl, o5, b5, k5, a5⟩
  have O5 := Lib.hid o5; have KB5 := Lib.hid (HBM.out.trans b5); have K5 := Lib.hid k5; have A5 := Lib.hid a5
  have hR5 := k5 _ _ _ _ (by decide) HRM.out
  obtain ⟨r1, r2⟩ := ixc hR5
  obtain ⟨m1, m2⟩ := ixc (k5 _ _ _ _ (by decide) HNM.out)
  have HR5 := Lib.hid hR5
  clear o5 b5 k5 a5 hR5 u1 u2 n1 n2
  dsimp only
  go_wp2_with fail
  go_region
  all_goals
    go_wp2
    (try simp only [Exit.inBlock, Exit.then])
    have hfin : (w5.setCell ⟨w.heap.size + 1 + 1, 0, none⟩ (Value.int IntKind.u32 F)).drew.heap[w.heap.size + 1 + 1]? = some (Obj.cells #[Value.int IntKind.u32 F] 45 (0, 0)) := ix_set F HR5.out
    refine bodyPost_ret (v := .tuple #[v5, .agg #[.int .u32 F]]) ?_ rfl ⟨⟨_, by rw [← HF.out], ?_, (A5.out.set HR5.out (by decide) _).drew⟩, (KB5.out.setCell (by have := HBB.out; simp; omega) _).drew, keep_set_new (HKM.out.trans K5.out) (by omega) _⟩
    · rw [results_tmp_cell rfl]
      simp [asAddr, Result.andThen, run_loadVar_row _ (w.heap.size + 1 + 1) 45 45 #[.int .u32 F] (0, 0) _ hfin Tryd.underlying45 rfl (by kernel_rfl)]
    · have ho := own_set O5.out HR5.out (by decide) (Value.int IntKind.u32 F)
      exact World.ownsRow.drew ho
set_option maxRecDepth 100000 in
set_option maxHeartbeats 8000000 in
theorem apq_sfp (K n : Nat) (kc : Array Value) (w : World) (B : Nat) (v : Value) (xs : List Int) (p0 p1 p2 p3 p4 p5 : Int) (ph : Bool) (c0 c1 c2 c3 c4 c5 : Int) (R o cc : Nat) (hO : OwnB w B v xs) (hB : B ≤ w.heap.size) (hT : TabB w B R o cc) (hA : Away K kc n w v) (hn : n ≤ xs.length) (hxs : xs.length ≤ 2097152)
    (e1 : -1073741824 ≤ c1 - p1 ∧ c1 - p1 ≤ 1073741824) (e2 : -1073741824 ≤ c2 - p2 ∧ c2 - p2 ≤ 1073741824) (e3 : -1073741824 ≤ c3 - p3 ∧ c3 - p3 ≤ 1073741824) (e4 : -1073741824 ≤ c4 - p4 ∧ c4 - p4 ≤ 1073741824) (e5 : -1073741824 ≤ c5 - p5 ∧ c5 - p5 ≤ 1073741824) :
    Calls Tryd.prog 36 #[v, .int .u8 59, .agg (stV p0 p1 p2 p3 p4 p5 ph), .agg (stV c0 c1 c2 c3 c4 c5 false), .bool false] w fun e w' => (∃ v', e = .returned (.tuple #[v', .agg #[.int .u32 (0)]]) ∧ OwnB w' B v' (xs ++ enc (zig (c1 - p1)) ++ enc (zig (c2 - p2)) ++ enc (zig (c3 - p3)) ++ enc (zig (c4 - p4))) ∧ Away K kc n w' v') ∧ Below B w w' ∧ Keep5 w w' := by
  obtain ⟨i0, hin, hz0, hz1, hz2⟩ := info_parts info5
  obtain ⟨W0, hW0⟩ : ∃ W0, ((w.alloc (Obj.cells (stV p0 p1 p2 p3 p4 p5 ph) 41)).alloc (Obj.cells (stV c0 c1 c2 c3 c4 c5 false) 41)).alloc (Obj.cells #[Value.int IntKind.u32 0] 45) = W0 := ⟨_, rfl⟩
  have hb0 : Below w.heap.size w W0 := by rw [← hW0]; exact (((Below.refl _ _).alloc (Nat.le_refl _) _).alloc (by simp) _).alloc (by simp; omega) _
  have hsz : W0.heap.size = w.heap.size + 1 + 1 + 1 := by rw [← hW0]; simp
  have hP : W0.heap[w.heap.size]? = some (Obj.cells (stV p0 p1 p2 p3 p4 p5 ph) 41 (0, 0)) := by
    rw [← hW0, heap_alloc_old _ _ (by simp; omega), heap_alloc_old _ _ (by simp)]; exact heap_alloc_new _ _
  have hC : W0.heap[w.heap.size + 1]? = some (Obj.cells (stV c0 c1 c2 c3 c4 c5 false) 41 (0, 0)) := by
    rw [← hW0, heap_alloc_old _ _ (by simp)]
    have := heap_alloc_new (w.alloc (Obj.cells (stV p0 p1 p2 p3 p4 p5 ph) 41)) (Obj.cells (stV c0 c1 c2 c3 c4 c5 false) 41)
    rw [show (w.alloc (Obj.cells (stV p0 p1 p2 p3 p4 p5 ph) 41)).heap.size = w.heap.size + 1 by simp] at this
    exact this
  have hR : W0.heap[w.heap.size + 1 + 1]? = some (Obj.cells #[Value.int IntKind.u32 0] 45 (0, 0)) := by
    rw [← hW0]
    have := heap_alloc_new ((w.alloc (Obj.cells (stV p0 p1 p2 p3 p4 p5 ph) 41)).alloc (Obj.cells (stV c0 c1 c2 c3 c4 c5 false) 41)) (Obj.cells #[Value.int IntKind.u32 0] 45)
    rw [show ((w.alloc (Obj.cells (stV p0 p1 p2 p3 p4 p5 ph) 41)).alloc (Obj.cells (stV c0 c1 c2 c3 c4 c5 false) 41)).heap.size = w.heap.size + 1 + 1 by simp] at this
    exact this
  have HW0 := Lib.hid hW0; have HP := Lib.hid hP; have HC := Lib.hid hC; have HR := Lib.hid hR; have HSZ := Lib.hid hsz
  have HO := Lib.hid (hO.keep hb0); have HT0 := Lib.hid hT; have HBB := Lib.hid hB; have KB := Lib.hid (hb0.mono hB)
  have HBs := Lib.hid (show B ≤ W0.heap.size from Nat.le_trans hB hb0.size)
  have KK := Lib.hid (Keep5.refl W0)
  have HA := Lib.hid (hA.keep hb0); clear hA
  have K0 := Lib.hid (show Keep5 w W0 by rw [← HW0.out]; exact ((keep_alloc w _).trans (keep_alloc _ _)).trans (keep_alloc _ _))
  clear hP hC hR hb0 hO hT hB hW0 hsz
  go_enter Tryd.func36, Tryd.ntmps36
  go_wp2_with fail
  rw [HW0.out]
  have hl1 : (xs).length ≤ 2097152 + 8 := by simp; omega
  refine (enc33a K n kc W0 B _ (xs) (c1 - p1) R o cc HO.out (Nat.le_trans HBB.out (by have := KB.out.size; omega)) (HT0.out.below KB.out) HA.out (by first | omega | (simp; omega)) (by omega) e1.1 e1.2).mono ?_
  rintro e ws1 ⟨vs1, rfl, os1, bs1, ks1, as1⟩
  obtain ⟨pps1, ccs1, hvs1, _, _⟩ := os1.bytes
  obtain ⟨Ns1, hNs1⟩ : ∃ N, (xs ++ enc (zig (c1 - p1))).length = N := ⟨_, rfl⟩
  rw [hNs1] at hvs1
  subst hvs1
  have hNls1 : Ns1 ≤ 2097152 + 16 := by rw [← hNs1, List.length_append]; have := enc_le (zig (c1 - p1)); omega
  have HNs1 := Lib.hid hNs1
  clear hNs1
  have Os1 := Lib.hid os1; have KBs1 := Lib.hid (KB.out.trans bs1); have KKs1 := Lib.hid (KK.out.trans ks1); have AAs1 := Lib.hid as1
  clear os1 bs1 ks1 as1 hl1
  have q1s1 := fld2 (KKs1.out _ _ _ _ (by decide) HP.out); have q2s1 := fld2 (KKs1.out _ _ _ _ (by decide) HC.out)
  go_wp2_with fail
  have hl2 : (xs ++ enc (zig (c1 - p1))).length ≤ 2097152 + 15 := by simp; have := enc_le (zig (c1 - p1)); omega
  refine (enc33a K n kc ws1 B _ (xs ++ enc (zig (c1 - p1))) (c2 - p2) R o cc Os1.out (Nat.le_trans HBB.out (by have := KBs1.out.size; omega)) (HT0.out.below KBs1.out) AAs1.out (by first | omega | (simp; omega)) (by omega) e2.1 e2.2).mono ?_
  rintro e ws2 ⟨vs2, rfl, os2, bs2, ks2, as2⟩
  obtain ⟨pps2, ccs2, hvs2, _, _⟩ := os2.bytes
  obtain ⟨Ns2, hNs2⟩ : ∃ N, (xs ++ enc (zig (c1 - p1)) ++ enc (zig (c2 - p2))).length = N := ⟨_, rfl⟩
  rw [hNs2] at hvs2
  subst hvs2
  have hNls2 : Ns2 ≤ 2097152 + 23 := by rw [← hNs2, List.length_append]; have := enc_le (zig (c2 - p2)); omega
  have HNs2 := Lib.hid hNs2
  clear hNs2
  have Os2 := Lib.hid os2; have KBs2 := Lib.hid (KBs1.out.trans bs2); have KKs2 := Lib.hid (KKs1.out.trans ks2); have AAs2 := Lib.hid as2
  clear os2 bs2 ks2 as2 hl2
  have q1s2 := fld3 (KKs2.out _ _ _ _ (by decide) HP.out); have q2s2 := fld3 (KKs2.out _ _ _ _ (by decide) HC.out)
  go_wp2_with fail
  have hl3 : (xs ++ enc (zig (c1 - p1)) ++ enc (zig (c2 - p2))).length ≤ 2097152 + 22 := by simp; have := enc_le (zig (c1 - p1)); have := enc_le (zig (c2 - p2)); omega
  refine (enc33a K n kc ws2 B _ (xs ++ enc (zig (c1 - p1)) ++ enc (zig (c2 - p2))) (c3 - p3) R o cc Os2.out (Nat.le_trans HBB.out (by have := KBs2.out.size; omega)) (HT0.out.below KBs2.out) AAs2.out (by first | omega | (simp; omega)) (by omega) e3.1 e3.2).mono ?_
  rintro e ws3 ⟨vs3, rfl, os3, bs3, ks3, as3⟩
  obtain ⟨pps3, ccs3, hvs3, _, _⟩ := os3.bytes
  obtain ⟨Ns3, hNs3⟩ : ∃ N, (xs ++ enc (zig (c1 - p1)) ++ enc (zig (c2 - p2)) ++ enc (zig (c3 - p3))).length = N := ⟨_, rfl⟩
  rw [hNs3] at hvs3
  subst hvs3
  have hNls3 : Ns3 ≤ 2097152 + 30 := by rw [← hNs3, List.length_append]; have := enc_le (zig (c3 - p3)); omega
  have HNs3 := Lib.hid hNs3
  clear hNs3
  have Os3 := Lib.hid os3; have KBs3 := Lib.hid (KBs2.out.trans bs3); have KKs3 := Lib.hid (KKs2.out.trans ks3); have AAs3 := Lib.hid as3
  clear os3 bs3 ks3 as3 hl3
  have q1s3 := fld4 (KKs3.out _ _ _ _ (by decide) HP.out); have q2s3 := fld4 (KKs3.out _ _ _ _ (by decide) HC.out)
  go_wp2_with fail
  have hl4 : (xs ++ enc (zig (c1 - p1)) ++ enc (zig (c2 - p2)) ++ enc (zig (c3 - p3))).length ≤ 2097152 + 29 := by simp; have := enc_le (zig (c1 - p1)); have := enc_le (zig (c2 - p2)); have := enc_le (zig (c3 - p3)); omega
  refine (enc33a K n kc ws3 B _ (xs ++ enc (zig (c1 - p1)) ++ enc (zig (c2 - p2)) ++ enc (zig (c3 - p3))) (c4 - p4) R o cc Os3.out (Nat.le_trans HBB.out (by have := KBs3.out.size; omega)) (HT0.out.below KBs3.out) AAs3.out (by first | omega | (simp; omega)) (by omega) e4.1 e4.2).mono ?_
  rintro e ws4 ⟨vs4, rfl, os4, bs4, ks4, as4⟩
  obtain ⟨pps4, ccs4, hvs4, _, _⟩ := os4.bytes
  obtain ⟨Ns4, hNs4⟩ : ∃ N, (xs ++ enc (zig (c1 - p1)) ++ enc (zig (c2 - p2)) ++ enc (zig (c3 - p3)) ++ enc (zig (c4 - p4))).length = N := ⟨_, rfl⟩
  rw [hNs4] at hvs4
  subst hvs4
  have hNls4 : Ns4 ≤ 2097152 + 37 := by rw [← hNs4, List.length_append]; have := enc_le (zig (c4 - p4)); omega
  have HNs4 := Lib.hid hNs4
  clear hNs4
  have Os4 := Lib.hid os4; have KBs4 := Lib.hid (KBs3.out.trans bs4); have KKs4 := Lib.hid (KKs3.out.trans ks4); have AAs4 := Lib.hid as4
  clear os4 bs4 ks4 as4 hl4
  have hP6 := fld6 ((keep_alloc ws4 (Obj.cells #[Value.int IntKind.u32 0] 45)) _ _ _ _ (by decide) (KKs4.out _ _ _ _ (by decide) HC.out))
  go_wp2_with fail
  have hRr := KKs4.out _ _ _ _ (by decide) HR.out
  have hrlt : w.heap.size + 1 + 1 < ws4.heap.size := (Array.getElem?_eq_some_iff.1 hRr).1
  have hRa := (keep_alloc ws4 (Obj.cells #[Value.int IntKind.u32 0] 45)) _ _ _ _ (by decide) hRr
  obtain ⟨r1, r2⟩ := ixc hRa
  have HRr := Lib.hid hRr
  clear hRr hRa
  go_region
  all_goals
    go_wp2
    (try simp only [Exit.inBlock, Exit.then])
    have hfin : ((ws4.setCell ⟨w.heap.size + 1 + 1, 0, none⟩ (Value.int IntKind.u32 0)).alloc (Obj.cells #[Value.int IntKind.u32 0] 45)).drew.heap[w.heap.size + 1 + 1]? = some (Obj.cells #[Value.int IntKind.u32 0] 45 (0, 0)) := by
      show ((ws4.setCell ⟨w.heap.size + 1 + 1, 0, none⟩ (Value.int IntKind.u32 0)).alloc (Obj.cells #[Value.int IntKind.u32 0] 45)).heap[w.heap.size + 1 + 1]? = _
      rw [heap_alloc_old _ _ (by simpa [World.setCell] using hrlt)]
      exact ix_set 0 HRr.out
    refine bodyPost_ret (v := .tuple #[.slice pps4 Ns4 ccs4, .agg #[.int .u32 0]]) ?_ rfl ⟨⟨_, rfl, ?_, ((AAs4.out.set HRr.out (by decide) _).alloc _).drew⟩, ((KBs4.out.setCell (by have := HBB.out; simp; omega) _).alloc (Nat.le_trans HBB.out (by have := KBs4.out.size; simp [World.setCell]; omega)) _).drew, (keep_set_new (K0.out.trans KKs4.out) (by omega) _).trans (keep_alloc _ _)⟩
    · rw [results_tmp_cell rfl]
      simp [asAddr, Result.andThen, run_loadVar_row _ (w.heap.size + 1 + 1) 45 45 #[.int .u32 0] (0, 0) _ hfin Tryd.underlying45 rfl (by kernel_rfl)]
    · have ho := own_set Os4.out HRr.out (by decide) (Value.int IntKind.u32 0)
      have := World.ownsRow.alloc ho (Obj.cells #[Value.int IntKind.u32 0] 45)
      exact this.drew
set_option maxRecDepth 100000 in
set_option maxHeartbeats 8000000 in
theorem apq_sfn (K n : Nat) (kc : Array Value) (w : World) (B : Nat) (v : Value) (xs : List Int) (p0 p1 p2 p3 p4 p5 : Int) (ph : Bool) (c0 c1 c2 c3 c4 c5 : Int) (R o cc : Nat) (hO : OwnB w B v xs) (hB : B ≤ w.heap.size) (hT : TabB w B R o cc) (hA : Away K kc n w v) (hn : n ≤ xs.length) (hxs : xs.length ≤ 2097152)
    (e1 : -1073741824 ≤ c1 - p1 ∧ c1 - p1 ≤ 1073741824) (e2 : -1073741824 ≤ c2 - p2 ∧ c2 - p2 ≤ 1073741824) (e3 : -1073741824 ≤ c3 - p3 ∧ c3 - p3 ≤ 1073741824) (e4 : -1073741824 ≤ c4 - p4 ∧ c4 - p4 ≤ 1073741824) (e5 : -1073741824 ≤ c5 - p5 ∧ c5 - p5 ≤ 1073741824) :
    Calls Tryd.prog 36 #[v, .int .u8 59, .agg (stV p0 p1 p2 p3 p4 p5 ph), .agg (stV c0 c1 c2 c3 c4 c5 true), .bool false] w fun e w' => (∃ v', e = .returned (.tuple #[v', .agg #[.int .u32 (flp ((xs ++ enc (zig (c1 - p1)) ++ enc (zig (c2 - p2)) ++ enc (zig (c3 - p3)) ++ enc (zig (c4 - p4))).length : Nat))]]) ∧ OwnB w' B v' (xs ++ enc (zig (c1 - p1)) ++ enc (zig (c2 - p2)) ++ enc (zig (c3 - p3)) ++ enc (zig (c4 - p4)) ++ enc (zig (c5 - p5))) ∧ Away K kc n w' v') ∧ Below B w w' ∧ Keep5 w w' := by
  obtain ⟨i0, hin, hz0, hz1, hz2⟩ := info_parts info5
  obtain ⟨W0, hW0⟩ : ∃ W0, ((w.alloc (Obj.cells (stV p0 p1 p2 p3 p4 p5 ph) 41)).alloc (Obj.cells (stV c0 c1 c2 c3 c4 c5 true) 41)).alloc (Obj.cells #[Value.int IntKind.u32 0] 45) = W0 := ⟨_, rfl⟩
  have hb0 : Below w.heap.size w W0 := by rw [← hW0]; exact (((Below.refl _ _).alloc (Nat.le_refl _) _).alloc (by simp) _).alloc (by simp; omega) _
  have hsz : W0.heap.size = w.heap.size + 1 + 1 + 1 := by rw [← hW0]; simp
  have hP : W0.heap[w.heap.size]? = some (Obj.cells (stV p0 p1 p2 p3 p4 p5 ph) 41 (0, 0)) := by
    rw [← hW0, heap_alloc_old _ _ (by simp; omega), heap_alloc_old _ _ (by simp)]; exact heap_alloc_new _ _
  have hC : W0.heap[w.heap.size + 1]? = some (Obj.cells (stV c0 c1 c2 c3 c4 c5 true) 41 (0, 0)) := by
    rw [← hW0, heap_alloc_old _ _ (by simp)]
    have := heap_alloc_new (w.alloc (Obj.cells (stV p0 p1 p2 p3 p4 p5 ph) 41)) (Obj.cells (stV c0 c1 c2 c3 c4 c5 true) 41)
    rw [show (w.alloc (Obj.cells (stV p0 p1 p2 p3 p4 p5 ph) 41)).heap.size = w.heap.size + 1 by simp] at this
    exact this
  have hR : W0.heap[w.heap.size + 1 + 1]? = some (Obj.cells #[Value.int IntKind.u32 0] 45 (0, 0)) := by
    rw [← hW0]
    have := heap_alloc_new ((w.alloc (Obj.cells (stV p0 p1 p2 p3 p4 p5 ph) 41)).alloc (Obj.cells (stV c0 c1 c2 c3 c4 c5 true) 41)) (Obj.cells #[Value.int IntKind.u32 0] 45)
    rw [show ((w.alloc (Obj.cells (stV p0 p1 p2 p3 p4 p5 ph) 41)).alloc (Obj.cells (stV c0 c1 c2 c3 c4 c5 true) 41)).heap.size = w.heap.size + 1 + 1 by simp] at this
    exact this
  have HW0 := Lib.hid hW0; have HP := Lib.hid hP; have HC := Lib.hid hC; have HR := Lib.hid hR; have HSZ := Lib.hid hsz
  have HO := Lib.hid (hO.keep hb0); have HT0 := Lib.hid hT; have HBB := Lib.hid hB; have KB := Lib.hid (hb0.mono hB)
  have HBs := Lib.hid (show B ≤ W0.heap.size from Nat.le_trans hB hb0.size)
  have KK := Lib.hid (Keep5.refl W0)
  have HA := Lib.hid (hA.keep hb0); clear hA
  have K0 := Lib.hid (show Keep5 w W0 by rw [← HW0.out]; exact ((keep_alloc w _).trans (keep_alloc _ _)).trans (keep_alloc _ _))
  clear hP hC hR hb0 hO hT hB hW0 hsz
  go_enter Tryd.func36, Tryd.ntmps36
  go_wp2_with fail
  rw [HW0.out]
  have hl1 : (xs).length ≤ 2097152 + 8 := by simp; omega
  refine (enc33a K n kc W0 B _ (xs) (c1 - p1) R o cc HO.out (Nat.le_trans HBB.out (by have := KB.out.size; omega)) (HT0.out.below KB.out) HA.out (by first | omega | (simp; omega)) (by omega) e1.1 e1.2).mono ?_
  rintro e ws1 ⟨vs1, rfl, os1, bs1, ks1, as1⟩
  obtain ⟨pps1, ccs1, hvs1, _, _⟩ := os1.bytes
  obtain ⟨Ns1, hNs1⟩ : ∃ N, (xs ++ enc (zig (c1 - p1))).length = N := ⟨_, rfl⟩
  rw [hNs1] at hvs1
  subst hvs1
  have hNls1 : Ns1 ≤ 2097152 + 16 := by rw [← hNs1, List.length_append]; have := enc_le (zig (c1 - p1)); omega
  have HNs1 := Lib.hid hNs1
  clear hNs1
  have Os1 := Lib.hid os1; have KBs1 := Lib.hid (KB.out.trans bs1); have KKs1 := Lib.hid (KK.out.trans ks1); have AAs1 := Lib.hid as1
  clear os1 bs1 ks1 as1 hl1
  have q1s1 := fld2 (KKs1.out _ _ _ _ (by decide) HP.out); have q2s1 := fld2 (KKs1.out _ _ _ _ (by decide) HC.out)
  go_wp2_with fail
  have hl2 : (xs ++ enc (zig (c1 - p1))).length ≤ 2097152 + 15 := by simp; have := enc_le (zig (c1 - p1)); omega
  refine (enc33a K n kc ws1 B _ (xs ++ enc (zig (c1 - p1))) (c2 - p2) R o cc Os1.out (Nat.le_trans HBB.out (by have := KBs1.out.size; omega)) (HT0.out.below KBs1.out) AAs1.out (by first | omega | (simp; omega)) (by omega) e2.1 e2.2).mono ?_
  rintro e ws2 ⟨vs2, rfl, os2, bs2, ks2, as2⟩
  obtain ⟨pps2, ccs2, hvs2, _, _⟩ := os2.bytes
  obtain ⟨Ns2, hNs2⟩ : ∃ N, (xs ++ enc (zig (c1 - p1)) ++ enc (zig (c2 - p2))).length = N := ⟨_, rfl⟩
  rw [hNs2] at hvs2
  subst hvs2
  have hNls2 : Ns2 ≤ 2097152 + 23 := by rw [← hNs2, List.length_append]; have := enc_le (zig (c2 - p2)); omega
  have HNs2 := Lib.hid hNs2
  clear hNs2
  have Os2 := Lib.hid os2; have KBs2 := Lib.hid (KBs1.out.trans bs2); have KKs2 := Lib.hid (KKs1.out.trans ks2); have AAs2 := Lib.hid as2
  clear os2 bs2 ks2 as2 hl2
  have q1s2 := fld3 (KKs2.out _ _ _ _ (by decide) HP.out); have q2s2 := fld3 (KKs2.out _ _ _ _ (by decide) HC.out)
  go_wp2_with fail
  have hl3 : (xs ++ enc (zig (c1 - p1)) ++ enc (zig (c2 - p2))).length ≤ 2097152 + 22 := by simp; have := enc_le (zig (c1 - p1)); have := enc_le (zig (c2 - p2)); omega
  refine (enc33a K n kc ws2 B _ (xs ++ enc (zig (c1 - p1)) ++ enc (zig (c2 - p2))) (c3 - p3) R o cc Os2.out (Nat.le_trans HBB.out (by have := KBs2.out.size; omega)) (HT0.out.below KBs2.out) AAs2.out (by first | omega | (simp; omega)) (by omega) e3.1 e3.2).mono ?_
  rintro e ws3 ⟨vs3, rfl, os3, bs3, ks3, as3⟩
  obtain ⟨pps3, ccs3, hvs3, _, _⟩ := os3.bytes
  obtain ⟨Ns3, hNs3⟩ : ∃ N, (xs ++ enc (zig (c1 - p1)) ++ enc (zig (c2 - p2)) ++ enc (zig (c3 - p3))).length = N := ⟨_, rfl⟩
  rw [hNs3] at hvs3
  subst hvs3
  have hNls3 : Ns3 ≤ 2097152 + 30 := by rw [← hNs3, List.length_append]; have := enc_le (zig (c3 - p3)); omega
  have HNs3 := Lib.hid hNs3
  clear hNs3
  have Os3 := Lib.hid os3; have KBs3 := Lib.hid (KBs2.out.trans bs3); have KKs3 := Lib.hid (KKs2.out.trans ks3); have AAs3 := Lib.hid as3
  clear os3 bs3 ks3 as3 hl3
  have q1s3 := fld4 (KKs3.out _ _ _ _ (by decide) HP.out); have q2s3 := fld4 (KKs3.out _ _ _ _ (by decide) HC.out)
  go_wp2_with fail
  have hl4 : (xs ++ enc (zig (c1 - p1)) ++ enc (zig (c2 - p2)) ++ enc (zig (c3 - p3))).length ≤ 2097152 + 29 := by simp; have := enc_le (zig (c1 - p1)); have := enc_le (zig (c2 - p2)); have := enc_le (zig (c3 - p3)); omega
  refine (enc33a K n kc ws3 B _ (xs ++ enc (zig (c1 - p1)) ++ enc (zig (c2 - p2)) ++ enc (zig (c3 - p3))) (c4 - p4) R o cc Os3.out (Nat.le_trans HBB.out (by have := KBs3.out.size; omega)) (HT0.out.below KBs3.out) AAs3.out (by first | omega | (simp; omega)) (by omega) e4.1 e4.2).mono ?_
  rintro e ws4 ⟨vs4, rfl, os4, bs4, ks4, as4⟩
  obtain ⟨pps4, ccs4, hvs4, _, _⟩ := os4.bytes
  obtain ⟨Ns4, hNs4⟩ : ∃ N, (xs ++ enc (zig (c1 - p1)) ++ enc (zig (c2 - p2)) ++ enc (zig (c3 - p3)) ++ enc (zig (c4 - p4))).length = N := ⟨_, rfl⟩
  rw [hNs4] at hvs4
  subst hvs4
  have hNls4 : Ns4 ≤ 2097152 + 37 := by rw [← hNs4, List.length_append]; have := enc_le (zig (c4 - p4)); omega
  have HNs4 := Lib.hid hNs4
  clear hNs4
  have Os4 := Lib.hid os4; have KBs4 := Lib.hid (KBs3.out.trans bs4); have KKs4 := Lib.hid (KKs3.out.trans ks4); have AAs4 := Lib.hid as4
  clear os4 bs4 ks4 as4 hl4
  have hP6 := fld6 ((keep_alloc ws4 (Obj.cells #[Value.int IntKind.u32 0] 45)) _ _ _ _ (by decide) (KKs4.out _ _ _ _ (by decide) HC.out))
  go_wp2_with fail
  refine (mk40 (Ns4 : Int) _).mono ?_
  rintro e wm ⟨rfl, bm, km⟩
  obtain ⟨F, hF⟩ : ∃ F, flp (Ns4 : Int) = F := ⟨_, rfl⟩
  rw [hF]
  rw [← HNs4.out] at hF
  have HF := Lib.hid hF
  have KKm := Lib.hid ((KKs4.out.trans (keep_alloc ws4 (Obj.cells #[Value.int IntKind.u32 0] 45))).trans km)
  have hNb := km _ _ _ _ (by decide) (heap_alloc_new ws4 (Obj.cells #[Value.int IntKind.u32 0] 45))
  have hnlt : w.heap.size + 1 + 1 < ws4.heap.size := (Array.getElem?_eq_some_iff.1 (KKs4.out _ _ _ _ (by decide) HR.out)).1
  obtain ⟨n1, n2⟩ := ixc hNb
  obtain ⟨WM, hWM⟩ : ∃ WM, wm.setCell ⟨ws4.heap.size, 0, none⟩ (.int .u32 F) = WM := ⟨_, rfl⟩
  have hPm : WM.heap[w.heap.size]? = some (Obj.cells (stV p0 p1 p2 p3 p4 p5 ph) 41 (0, 0)) := by rw [← hWM, heap_set_other _ (by omega)]; exact KKm.out _ _ _ _ (by decide) HP.out
  have hCm : WM.heap[w.heap.size + 1]? = some (Obj.cells (stV c0 c1 c2 c3 c4 c5 true) 41 (0, 0)) := by rw [← hWM, heap_set_other _ (by omega)]; exact KKm.out _ _ _ _ (by decide) HC.out
  have hRm : WM.heap[w.heap.size + 1 + 1]? = some (Obj.cells #[Value.int IntKind.u32 0] 45 (0, 0)) := by rw [← hWM, heap_set_other _ (by omega)]; exact KKm.out _ _ _ _ (by decide) HR.out
  have hNm : WM.heap[ws4.heap.size]? = some (Obj.cells #[Value.int IntKind.u32 F] 45 (0, 0)) := by rw [← hWM]; exact ix_set F hNb
  have OA := World.ownsRow.alloc Os4.out (Obj.cells #[Value.int IntKind.u32 0] 45)
  have OM := own_set (OwnB.keep OA bm) hNb (by decide) (.int .u32 F)
  rw [hWM] at OM
  have bA : Below B ws4 (ws4.alloc (Obj.cells #[Value.int IntKind.u32 0] 45)) := below_alloc1 _ _ (Nat.le_trans HBB.out (by have := KBs4.out.size; omega)) _
  have bM : Below B w WM := by rw [← hWM]; exact ((KBs4.out.trans bA).trans (bm.mono (Nat.le_trans HBB.out (by have := KBs4.out.size; simp; omega)))).setCell (Nat.le_trans HBB.out KBs4.out.size) _
  have HKM := Lib.hid (show Keep5 w WM by rw [← hWM]; exact keep_set_new (K0.out.trans KKm.out) KBs4.out.size _)
  have HAM := Lib.hid (show Away K kc n WM _ by rw [← hWM]; exact ((AAs4.out.alloc (Obj.cells #[Value.int IntKind.u32 0] 45)).keep bm).set hNb (by decide) _)
  have u1 := fld5 hPm; have u2 := fld5 hCm
  rw [← hWM] at u1 u2
  have HWM := Lib.hid hWM; have HRM := Lib.hid hRm; have HNM := Lib.hid hNm; have HOM := Lib.hid OM; have HBM := Lib.hid bM
  clear hPm hCm hRm hNm OA OM bA bM hWM bm km hNb hF hP6
  dsimp only
  go_wp2_with fail
  rw [HWM.out]
  refine (enc33a K n kc WM B _ (xs ++ enc (zig (c1 - p1)) ++ enc (zig (c2 - p2)) ++ enc (zig (c3 - p3)) ++ enc (zig (c4 - p4))) (c5 - p5) R o cc HOM.out (Nat.le_trans HBB.out HBM.out.size) (HT0.out.below HBM.out) HAM.out (by first | omega | (simp; omega)) (by rw [HNs4.out]; omega) e5.1 e5.2).mono ?_
  rintro e w5 ⟨v5, rfl, o5, b5, k5, a5⟩
  have O5 := Lib.hid o5; have KB5 := Lib.hid (HBM.out.trans b5); have K5 := Lib.hid k5; have A5 := Lib.hid a5
  have hR5 := k5 _ _ _ _ (by decide) HRM.out
  obtain ⟨r1, r2⟩ := ixc hR5
  obtain ⟨m1, m2⟩ := ixc (k5 _ _ _ _ (by decide) HNM.out)
  have HR5 := Lib.hid hR5
  clear o5 b5 k5 a5 hR5 u1 u2 n1 n2
  dsimp only
  go_wp2_with fail
  go_region
  all_goals
    go_wp2
    (try simp only [Exit.inBlock, Exit.then])
    have hfin : (w5.setCell ⟨w.heap.size + 1 + 1, 0, none⟩ (Value.int IntKind.u32 F)).drew.heap[w.heap.size + 1 + 1]? = some (Obj.cells #[Value.int IntKind.u32 F] 45 (0, 0)) := ix_set F HR5.out
    refine bodyPost_ret (v := .tuple #[v5, .agg #[.int .u32 F]]) ?_ rfl ⟨⟨_, by rw [← HF.out], ?_, (A5.out.set HR5.out (by decide) _).drew⟩, (KB5.out.setCell (by have := HBB.out; simp; omega) _).drew, keep_set_new (HKM.out.trans K5.out) (by omega) _⟩
    · rw [results_tmp_cell rfl]
      simp [asAddr, Result.andThen, run_loadVar_row _ (w.heap.size + 1 + 1) 45 45 #[.int .u32 F] (0, 0) _ hfin Tryd.underlying45 rfl (by kernel_rfl)]
    · have ho := own_set O5.out HR5.out (by decide) (Value.int IntKind.u32 F)
      exact World.ownsRow.drew ho
set_option maxRecDepth 100000 in
set_option maxHeartbeats 8000000 in
theorem apq_qop (K n : Nat) (kc : Array Value) (w : World) (B : Nat) (v : Value) (xs : List Int) (p0 p1 p2 p3 p4 p5 : Int) (ph : Bool) (c0 c1 c2 c3 c4 c5 : Int) (R o cc : Nat) (hO : OwnB w B v xs) (hB : B ≤ w.heap.size) (hT : TabB w B R o cc) (hA : Away K kc n w v) (hn : n ≤ xs.length) (hxs : xs.length ≤ 2097152)
    (e1 : -1073741824 ≤ c1 - p1 ∧ c1 - p1 ≤ 1073741824) (e2 : -1073741824 ≤ c2 - p2 ∧ c2 - p2 ≤ 1073741824) (e3 : -1073741824 ≤ c3 - p3 ∧ c3 - p3 ≤ 1073741824) (e4 : -1073741824 ≤ c4 - p4 ∧ c4 - p4 ≤ 1073741824) (e5 : -1073741824 ≤ c5 - p5 ∧ c5 - p5 ≤ 1073741824) :
    Calls Tryd.prog 36 #[v, .int .u8 34, .agg (stV p0 p1 p2 p3 p4 p5 ph), .agg (stV c0 c1 c2 c3 c4 c5 false), .bool true] w fun e w' => (∃ v', e = .returned (.tuple #[v', .agg #[.int .u32 (0)]]) ∧ OwnB w' B v' (xs ++ enc (zig (c1 - p1))) ∧ Away K kc n w' v') ∧ Below B w w' ∧ Keep5 w w' := by
  obtain ⟨i0, hin, hz0, hz1, hz2⟩ := info_parts info5
  obtain ⟨W0, hW0⟩ : ∃ W0, ((w.alloc (Obj.cells (stV p0 p1 p2 p3 p4 p5 ph) 41)).alloc (Obj.cells (stV c0 c1 c2 c3 c4 c5 false) 41)).alloc (Obj.cells #[Value.int IntKind.u32 0] 45) = W0 := ⟨_, rfl⟩
  have hb0 : Below w.heap.size w W0 := by rw [← hW0]; exact (((Below.refl _ _).alloc (Nat.le_refl _) _).alloc (by simp) _).alloc (by simp; omega) _
  have hsz : W0.heap.size = w.heap.size + 1 + 1 + 1 := by rw [← hW0]; simp
  have hP : W0.heap[w.heap.size]? = some (Obj.cells (stV p0 p1 p2 p3 p4 p5 ph) 41 (0, 0)) := by
    rw [← hW0, heap_alloc_old _ _ (by simp; omega), heap_alloc_old _ _ (by simp)]; exact heap_alloc_new _ _
  have hC : W0.heap[w.heap.size + 1]? = some (Obj.cells (stV c0 c1 c2 c3 c4 c5 false) 41 (0, 0)) := by
    rw [← hW0, heap_alloc_old _ _ (by simp)]
    have := heap_alloc_new (w.alloc (Obj.cells (stV p0 p1 p2 p3 p4 p5 ph) 41)) (Obj.cells (stV c0 c1 c2 c3 c4 c5 false) 41)
    rw [show (w.alloc (Obj.cells (stV p0 p1 p2 p3 p4 p5 ph) 41)).heap.size = w.heap.size + 1 by simp] at this
    exact this
  have hR : W0.heap[w.heap.size + 1 + 1]? = some (Obj.cells #[Value.int IntKind.u32 0] 45 (0, 0)) := by
    rw [← hW0]
    have := heap_alloc_new ((w.alloc (Obj.cells (stV p0 p1 p2 p3 p4 p5 ph) 41)).alloc (Obj.cells (stV c0 c1 c2 c3 c4 c5 false) 41)) (Obj.cells #[Value.int IntKind.u32 0] 45)
    rw [show ((w.alloc (Obj.cells (stV p0 p1 p2 p3 p4 p5 ph) 41)).alloc (Obj.cells (stV c0 c1 c2 c3 c4 c5 false) 41)).heap.size = w.heap.size + 1 + 1 by simp] at this
    exact this
  have HW0 := Lib.hid hW0; have HP := Lib.hid hP; have HC := Lib.hid hC; have HR := Lib.hid hR; have HSZ := Lib.hid hsz
  have HO := Lib.hid (hO.keep hb0); have HT0 := Lib.hid hT; have HBB := Lib.hid hB; have KB := Lib.hid (hb0.mono hB)
  have HBs := Lib.hid (show B ≤ W0.heap.size from Nat.le_trans hB hb0.size)
  have KK := Lib.hid (Keep5.refl W0)
  have HA := Lib.hid (hA.keep hb0); clear hA
  have K0 := Lib.hid (show Keep5 w W0 by rw [← HW0.out]; exact ((keep_alloc w _).trans (keep_alloc _ _)).trans (keep_alloc _ _))
  clear hP hC hR hb0 hO hT hB hW0 hsz
  go_enter Tryd.func36, Tryd.ntmps36
  go_wp2_with fail
  rw [HW0.out]
  have hl1 : (xs).length ≤ 2097152 + 8 := by simp; omega
  refine (enc33a K n kc W0 B _ (xs) (c1 - p1) R o cc HO.out (Nat.le_trans HBB.out (by have := KB.out.size; omega)) (HT0.out.below KB.out) HA.out (by first | omega | (simp; omega)) (by omega) e1.1 e1.2).mono ?_
  rintro e ws1 ⟨vs1, rfl, os1, bs1, ks1, as1⟩
  obtain ⟨pps1, ccs1, hvs1, _, _⟩ := os1.bytes
  obtain ⟨Ns1, hNs1⟩ : ∃ N, (xs ++ enc (zig (c1 - p1))).length = N := ⟨_, rfl⟩
  rw [hNs1] at hvs1
  subst hvs1
  have hNls1 : Ns1 ≤ 2097152 + 16 := by rw [← hNs1, List.length_append]; have := enc_le (zig (c1 - p1)); omega
  have HNs1 := Lib.hid hNs1
  clear hNs1
  have Os1 := Lib.hid os1; have KBs1 := Lib.hid (KB.out.trans bs1); have KKs1 := Lib.hid (KK.out.trans ks1); have AAs1 := Lib.hid as1
  clear os1 bs1 ks1 as1 hl1
  have hP6 := fld6 ((keep_alloc ws1 (Obj.cells #[Value.int IntKind.u32 0] 45)) _ _ _ _ (by decide) (KKs1.out _ _ _ _ (by decide) HC.out))
  go_wp2_with fail
  have hRr := KKs1.out _ _ _ _ (by decide) HR.out
  have hrlt : w.heap.size + 1 + 1 < ws1.heap.size := (Array.getElem?_eq_some_iff.1 hRr).1
  have hRa := (keep_alloc ws1 (Obj.cells #[Value.int IntKind.u32 0] 45)) _ _ _ _ (by decide) hRr
  obtain ⟨r1, r2⟩ := ixc hRa
  have HRr := Lib.hid hRr
  clear hRr hRa
  go_region
  all_goals
    go_wp2
    (try simp only [Exit.inBlock, Exit.then])
    have hfin : ((ws1.setCell ⟨w.heap.size + 1 + 1, 0, none⟩ (Value.int IntKind.u32 0)).alloc (Obj.cells #[Value.int IntKind.u32 0] 45)).drew.heap[w.heap.size + 1 + 1]? = some (Obj.cells #[Value.int IntKind.u32 0] 45 (0, 0)) := by
      show ((ws1.setCell ⟨w.heap.size + 1 + 1, 0, none⟩ (Value.int IntKind.u32 0)).alloc (Obj.cells #[Value.int IntKind.u32 0] 45)).heap[w.heap.size + 1 + 1]? = _
      rw [heap_alloc_old _ _ (by simpa [World.setCell] using hrlt)]
      exact ix_set 0 HRr.out
    refine bodyPost_ret (v := .tuple #[.slice pps1 Ns1 ccs1, .agg #[.int .u32 0]]) ?_ rfl ⟨⟨_, rfl, ?_, ((AAs1.out.set HRr.out (by decide) _).alloc _).drew⟩, ((KBs1.out.setCell (by have := HBB.out; simp; omega) _).alloc (Nat.le_trans HBB.out (by have := KBs1.out.size; simp [World.setCell]; omega)) _).drew, (keep_set_new (K0.out.trans KKs1.out) (by omega) _).trans (keep_alloc _ _)⟩
    · rw [results_tmp_cell rfl]
      simp [asAddr, Result.andThen, run_loadVar_row _ (w.heap.size + 1 + 1) 45 45 #[.int .u32 0] (0, 0) _ hfin Tryd.underlying45 rfl (by kernel_rfl)]
    · have ho := own_set Os1.out HRr.out (by decide) (Value.int IntKind.u32 0)
      have := World.ownsRow.alloc ho (Obj.cells #[Value.int IntKind.u32 0] 45)
      exact this.drew
set_option maxRecDepth 100000 in
set_option maxHeartbeats 8000000 in
theorem apq_qon (K n : Nat) (kc : Array Value) (w : World) (B : Nat) (v : Value) (xs : List Int) (p0 p1 p2 p3 p4 p5 : Int) (ph : Bool) (c0 c1 c2 c3 c4 c5 : Int) (R o cc : Nat) (hO : OwnB w B v xs) (hB : B ≤ w.heap.size) (hT : TabB w B R o cc) (hA : Away K kc n w v) (hn : n ≤ xs.length) (hxs : xs.length ≤ 2097152)
    (e1 : -1073741824 ≤ c1 - p1 ∧ c1 - p1 ≤ 1073741824) (e2 : -1073741824 ≤ c2 - p2 ∧ c2 - p2 ≤ 1073741824) (e3 : -1073741824 ≤ c3 - p3 ∧ c3 - p3 ≤ 1073741824) (e4 : -1073741824 ≤ c4 - p4 ∧ c4 - p4 ≤ 1073741824) (e5 : -1073741824 ≤ c5 - p5 ∧ c5 - p5 ≤ 1073741824) :
    Calls Tryd.prog 36 #[v, .int .u8 34, .agg (stV p0 p1 p2 p3 p4 p5 ph), .agg (stV c0 c1 c2 c3 c4 c5 true), .bool true] w fun e w' => (∃ v', e = .returned (.tuple #[v', .agg #[.int .u32 (flp ((xs ++ enc (zig (c1 - p1))).length : Nat))]]) ∧ OwnB w' B v' (xs ++ enc (zig (c1 - p1)) ++ enc (zig (c5 - p5))) ∧ Away K kc n w' v') ∧ Below B w w' ∧ Keep5 w w' := by
  obtain ⟨i0, hin, hz0, hz1, hz2⟩ := info_parts info5
  obtain ⟨W0, hW0⟩ : ∃ W0, ((w.alloc (Obj.cells (stV p0 p1 p2 p3 p4 p5 ph) 41)).alloc (Obj.cells (stV c0 c1 c2 c3 c4 c5 true) 41)).alloc (Obj.cells #[Value.int IntKind.u32 0] 45) = W0 := ⟨_, rfl⟩
  have hb0 : Below w.heap.size w W0 := by rw [← hW0]; exact (((Below.refl _ _).alloc (Nat.le_refl _) _).alloc (by simp) _).alloc (by simp; omega) _
  have hsz : W0.heap.size = w.heap.size + 1 + 1 + 1 := by rw [← hW0]; simp
  have hP : W0.heap[w.heap.size]? = some (Obj.cells (stV p0 p1 p2 p3 p4 p5 ph) 41 (0, 0)) := by
    rw [← hW0, heap_alloc_old _ _ (by simp; omega), heap_alloc_old _ _ (by simp)]; exact heap_alloc_new _ _
  have hC : W0.heap[w.heap.size + 1]? = some (Obj.cells (stV c0 c1 c2 c3 c4 c5 true) 41 (0, 0)) := by
    rw [← hW0, heap_alloc_old _ _ (by simp)]
    have := heap_alloc_new (w.alloc (Obj.cells (stV p0 p1 p2 p3 p4 p5 ph) 41)) (Obj.cells (stV c0 c1 c2 c3 c4 c5 true) 41)
    rw [show (w.alloc (Obj.cells (stV p0 p1 p2 p3 p4 p5 ph) 41)).heap.size = w.heap.size + 1 by simp] at this
    exact this
  have hR : W0.heap[w.heap.size + 1 + 1]? = some (Obj.cells #[Value.int IntKind.u32 0] 45 (0, 0)) := by
    rw [← hW0]
    have := heap_alloc_new ((w.alloc (Obj.cells (stV p0 p1 p2 p3 p4 p5 ph) 41)).alloc (Obj.cells (stV c0 c1 c2 c3 c4 c5 true) 41)) (Obj.cells #[Value.int IntKind.u32 0] 45)
    rw [show ((w.alloc (Obj.cells (stV p0 p1 p2 p3 p4 p5 ph) 41)).alloc (Obj.cells (stV c0 c1 c2 c3 c4 c5 true) 41)).heap.size = w.heap.size + 1 + 1 by simp] at this
    exact this
  have HW0 := Lib.hid hW0; have HP := Lib.hid hP; have HC := Lib.hid hC; have HR := Lib.hid hR; have HSZ := Lib.hid hsz
  have HO := Lib.hid (hO.keep hb0); have HT0 := Lib.hid hT; have HBB := Lib.hid hB; have KB := Lib.hid (hb0.mono hB)
  have HBs := Lib.hid (show B ≤ W0.heap.size from Nat.le_trans hB hb0.size)
  have KK := Lib.hid (Keep5.refl W0)
  have HA := Lib.hid (hA.keep hb0); clear hA
  have K0 := Lib.hid (show Keep5 w W0 by rw [← HW0.out]; exact ((keep_alloc w _).trans (keep_alloc _ _)).trans (keep_alloc _ _))
  clear hP hC hR hb0 hO hT hB hW0 hsz
  go_enter Tryd.func36, Tryd.ntmps36
  go_wp2_with fail
  rw [HW0.out]
  have hl1 : (xs).length ≤ 2097152 + 8 := by simp; omega
  refine (enc33a K n kc W0 B _ (xs) (c1 - p1) R o cc HO.out (Nat.le_trans HBB.out (by have := KB.out.size; omega)) (HT0.out.below KB.out) HA.out (by first | omega | (simp; omega)) (by omega) e1.1 e1.2).mono ?_
  rintro e ws1 ⟨vs1, rfl, os1, bs1, ks1, as1⟩
  obtain ⟨pps1, ccs1, hvs1, _, _⟩ := os1.bytes
  obtain ⟨Ns1, hNs1⟩ : ∃ N, (xs ++ enc (zig (c1 - p1))).length = N := ⟨_, rfl⟩
  rw [hNs1] at hvs1
  subst hvs1
  have hNls1 : Ns1 ≤ 2097152 + 16 := by rw [← hNs1, List.length_append]; have := enc_le (zig (c1 - p1)); omega
  have HNs1 := Lib.hid hNs1
  clear hNs1
  have Os1 := Lib.hid os1; have KBs1 := Lib.hid (KB.out.trans bs1); have KKs1 := Lib.hid (KK.out.trans ks1); have AAs1 := Lib.hid as1
  clear os1 bs1 ks1 as1 hl1
  have hP6 := fld6 ((keep_alloc ws1 (Obj.cells #[Value.int IntKind.u32 0] 45)) _ _ _ _ (by decide) (KKs1.out _ _ _ _ (by decide) HC.out))
  go_wp2_with fail
  refine (mk40 (Ns1 : Int) _).mono ?_
  rintro e wm ⟨rfl, bm, km⟩
  obtain ⟨F, hF⟩ : ∃ F, flp (Ns1 : Int) = F := ⟨_, rfl⟩
  rw [hF]
  rw [← HNs1.out] at hF
  have HF := Lib.hid hF
  have KKm := Lib.hid ((KKs1.out.trans (keep_alloc ws1 (Obj.cells #[Value.int IntKind.u32 0] 45))).trans km)
  have hNb := km _ _ _ _ (by decide) (heap_alloc_new ws1 (Obj.cells #[Value.int IntKind.u32 0] 45))
  have hnlt : w.heap.size + 1 + 1 < ws1.heap.size := (Array.getElem?_eq_some_iff.1 (KKs1.out _ _ _ _ (by decide) HR.out)).1
  obtain ⟨n1, n2⟩ := ixc hNb
  obtain ⟨WM, hWM⟩ : ∃ WM, wm.setCell ⟨ws1.heap.size, 0, none⟩ (.int .u32 F) = WM := ⟨_, rfl⟩
  have hPm : WM.heap[w.heap.size]? = some (Obj.cells (stV p0 p1 p2 p3 p4 p5 ph) 41 (0, 0)) := by rw [← hWM, heap_set_other _ (by omega)]; exact KKm.out _ _ _ _ (by decide) HP.out
  have hCm : WM.heap[w.heap.size + 1]? = some (Obj.cells (stV c0 c1 c2 c3 c4 c5 true) 41 (0, 0)) := by rw [← hWM, heap_set_other _ (by omega)]; exact KKm.out _ _ _ _ (by decide) HC.out
  have hRm : WM.heap[w.heap.size + 1 + 1]? = some (Obj.cells #[Value.int IntKind.u32 0] 45 (0, 0)) := by rw [← hWM, heap_set_other _ (by omega)]; exact KKm.out _ _ _ _ (by decide) HR.out
  have hNm : WM.heap[ws1.heap.size]? = some (Obj.cells #[Value.int IntKind.u32 F] 45 (0, 0)) := by rw [← hWM]; exact ix_set F hNb
  have OA := World.ownsRow.alloc Os1.out (Obj.cells #[Value.int IntKind.u32 0] 45)
  have OM := own_set (OwnB.keep OA bm) hNb (by decide) (.int .u32 F)
  rw [hWM] at OM
  have bA : Below B ws1 (ws1.alloc (Obj.cells #[Value.int IntKind.u32 0] 45)) := below_alloc1 _ _ (Nat.le_trans HBB.out (by have := KBs1.out.size; omega)) _
  have bM : Below B w WM := by rw [← hWM]; exact ((KBs1.out.trans bA).trans (bm.mono (Nat.le_trans HBB.out (by have := KBs1.out.size; simp; omega)))).setCell (Nat.le_trans HBB.out KBs1.out.size) _
  have HKM := Lib.hid (show Keep5 w WM by rw [← hWM]; exact keep_set_new (K0.out.trans KKm.out) KBs1.out.size _)
  have HAM := Lib.hid (show Away K kc n WM _ by rw [← hWM]; exact ((AAs1.out.alloc (Obj.cells #[Value.int IntKind.u32 0] 45)).keep bm).set hNb (by decide) _)
  have u1 := fld5 hPm; have u2 := fld5 hCm
  rw [← hWM] at u1 u2
  have HWM := Lib.hid hWM; have HRM := Lib.hid hRm; have HNM := Lib.hid hNm; have HOM := Lib.hid OM; have HBM := Lib.hid bM
  clear hPm hCm hRm hNm OA OM bA bM hWM bm km hNb hF hP6
  dsimp only
  go_wp2_with fail
  rw [HWM.out]
  refine (enc33a K n kc WM B _ (xs ++ enc (zig (c1 - p1))) (c5 - p5) R o cc HOM.out (Nat.le_trans HBB.out HBM.out.size) (HT0.out.below HBM.out) HAM.out (by first | omega | (simp; omega)) (by rw [HNs1.out]; omega) e5.1 e5.2).mono ?_
  rintro e w5 ⟨v5, rfl, o5, b5, k5, a5⟩
  have O5 := Lib.hid o5; have KB5 := Lib.hid (HBM.out.trans b5); have K5 := Lib.hid k5; have A5 := Lib.hid a5
  have hR5 := k5 _ _ _ _ (by decide) HRM.out
  obtain ⟨r1, r2⟩ := ixc hR5
  obtain ⟨m1, m2⟩ := ixc (k5 _ _ _ _ (by decide) HNM.out)
  have HR5 := Lib.hid hR5
  clear o5 b5 k5 a5 hR5 u1 u2 n1 n2
  dsimp only
  go_wp2_with fail
  go_region
  all_goals
    go_wp2
    (try simp only [Exit.inBlock, Exit.then])
    have hfin : (w5.setCell ⟨w.heap.size + 1 + 1, 0, none⟩ (Value.int IntKind.u32 F)).drew.heap[w.heap.size + 1 + 1]? = some (Obj.cells #[Value.int IntKind.u32 F] 45 (0, 0)) := ix_set F HR5.out
    refine bodyPost_ret (v := .tuple #[v5, .agg #[.int .u32 F]]) ?_ rfl ⟨⟨_, by rw [← HF.out], ?_, (A5.out.set HR5.out (by decide) _).drew⟩, (KB5.out.setCell (by have := HBB.out; simp; omega) _).drew, keep_set_new (HKM.out.trans K5.out) (by omega) _⟩
    · rw [results_tmp_cell rfl]
      simp [asAddr, Result.andThen, run_loadVar_row _ (w.heap.size + 1 + 1) 45 45 #[.int .u32 F] (0, 0) _ hfin Tryd.underlying45 rfl (by kernel_rfl)]
    · have ho := own_set O5.out HR5.out (by decide) (Value.int IntKind.u32 F)
      exact World.ownsRow.drew ho
set_option maxRecDepth 100000 in
set_option maxHeartbeats 8000000 in
theorem apq_qfp (K n : Nat) (kc : Array Value) (w : World) (B : Nat) (v : Value) (xs : List Int) (p0 p1 p2 p3 p4 p5 : Int) (ph : Bool) (c0 c1 c2 c3 c4 c5 : Int) (R o cc : Nat) (hO : OwnB w B v xs) (hB : B ≤ w.heap.size) (hT : TabB w B R o cc) (hA : Away K kc n w v) (hn : n ≤ xs.length) (hxs : xs.length ≤ 2097152)
    (e1 : -1073741824 ≤ c1 - p1 ∧ c1 - p1 ≤ 1073741824) (e2 : -1073741824 ≤ c2 - p2 ∧ c2 - p2 ≤ 1073741824) (e3 : -1073741824 ≤ c3 - p3 ∧ c3 - p3 ≤ 1073741824) (e4 : -1073741824 ≤ c4 - p4 ∧ c4 - p4 ≤ 1073741824) (e5 : -1073741824 ≤ c5 - p5 ∧ c5 - p5 ≤ 1073741824) :
    Calls Tryd.prog 36 #[v, .int .u8 34, .agg (stV p0 p1 p2 p3 p4 p5 ph), .agg (stV c0 c1 c2 c3 c4 c5 false), .bool false] w fun e w' => (∃ v', e = .returned (.tuple #[v', .agg #[.int .u32 (0)]]) ∧ OwnB w' B v' (xs ++ enc (zig (c1 - p1)) ++ enc (zig (c2 - p2)) ++ enc (zig (c3 - p3)) ++ enc (zig (c4 - p4))) ∧ Away K kc n w' v') ∧ Below B w w' ∧ Keep5 w w' := by
  obtain ⟨i0, hin, hz0, hz1, hz2⟩ := info_parts info5
  obtain ⟨W0, hW0⟩ : ∃ W0, ((w.alloc (Obj.cells (stV p0 p1 p2 p3 p4 p5 ph) 41)).alloc (Obj.cells (stV c0 c1 c2 c3 c4 c5 false) 41)).alloc (Obj.cells #[Value.int IntKind.u32 0] 45) = W0 := ⟨_, rfl⟩
  have hb0 : Below w.heap.size w W0 := by rw [← hW0]; exact (((Below.refl _ _).alloc (Nat.le_refl _) _).alloc (by simp) _).alloc (by simp; omega) _
  have hsz : W0.heap.size = w.heap.size + 1 + 1 + 1 := by rw [← hW0]; simp
  have hP : W0.heap[w.heap.size]? = some (Obj.cells (stV p0 p1 p2 p3 p4 p5 ph) 41 (0, 0)) := by
    rw [← hW0, heap_alloc_old _ _ (by simp; omega), heap_alloc_old _ _ (by simp)]; exact heap_alloc_new _ _
  have hC : W0.heap[w.heap.size + 1]? = some (Obj.cells (stV c0 c1 c2 c3 c4 c5 false) 41 (0, 0)) := by
    rw [← hW0, heap_alloc_old _ _ (by simp)]
    have := heap_alloc_new (w.alloc (Obj.cells (stV p0 p1 p2 p3 p4 p5 ph) 41)) (Obj.cells (stV c0 c1 c2 c3 c4 c5 false) 41)
    rw [show (w.alloc (Obj.cells (stV p0 p1 p2 p3 p4 p5 ph) 41)).heap.size = w.heap.size + 1 by simp] at this
    exact this
  have hR : W0.heap[w.heap.size + 1 + 1]? = some (Obj.cells #[Value.int IntKind.u32 0] 45 (0, 0)) := by
    rw [← hW0]
    have := heap_alloc_new ((w.alloc (Obj.cells (stV p0 p1 p2 p3 p4 p5 ph) 41)).alloc (Obj.cells (stV c0 c1 c2 c3 c4 c5 false) 41)) (Obj.cells #[Value.int IntKind.u32 0] 45)
    rw [show ((w.alloc (Obj.cells (stV p0 p1 p2 p3 p4 p5 ph) 41)).alloc (Obj.cells (stV c0 c1 c2 c3 c4 c5 false) 41)).heap.size = w.heap.size + 1 + 1 by simp] at this
    exact this
  have HW0 := Lib.hid hW0; have HP := Lib.hid hP; have HC := Lib.hid hC; have HR := Lib.hid hR; have HSZ := Lib.hid hsz
  have HO := Lib.hid (hO.keep hb0); have HT0 := Lib.hid hT; have HBB := Lib.hid hB; have KB := Lib.hid (hb0.mono hB)
  have HBs := Lib.hid (show B ≤ W0.heap.size from Nat.le_trans hB hb0.size)
  have KK := Lib.hid (Keep5.refl W0)
  have HA := Lib.hid (hA.keep hb0); clear hA
  have K0 := Lib.hid (show Keep5 w W0 by rw [← HW0.out]; exact ((keep_alloc w _).trans (keep_alloc _ _)).trans (keep_alloc _ _))
  clear hP hC hR hb0 hO hT hB hW0 hsz
  go_enter Tryd.func36, Tryd.ntmps36
  go_wp2_with fail
  rw [HW0.out]
  have hl1 : (xs).length ≤ 2097152 + 8 := by simp; omega
  refine (enc33a K n kc W0 B _ (xs) (c1 - p1) R o cc HO.out (Nat.le_trans HBB.out (by have := KB.out.size; omega)) (HT0.out.below KB.out) HA.out (by first | omega | (simp; omega)) (by omega) e1.1 e1.2).mono ?_
  rintro e ws1 ⟨vs1, rfl, os1, bs1, ks1, as1⟩
  obtain ⟨pps1, ccs1, hvs1, _, _⟩ := os1.bytes
  obtain ⟨Ns1, hNs1⟩ : ∃ N, (xs ++ enc (zig (c1 - p1))).length = N := ⟨_, rfl⟩
  rw [hNs1] at hvs1
  subst hvs1
  have hNls1 : Ns1 ≤ 2097152 + 16 := by rw [← hNs1, List.length_append]; have := enc_le (zig (c1 - p1)); omega
  have HNs1 := Lib.hid hNs1
  clear hNs1
  have Os1 := Lib.hid os1; have KBs1 := Lib.hid (KB.out.trans bs1); have KKs1 := Lib.hid (KK.out.trans ks1); have AAs1 := Lib.hid as1
  clear os1 bs1 ks1 as1 hl1
  have q1s1 := fld2 (KKs1.out _ _ _ _ (by decide) HP.out); have q2s1 := fld2 (KKs1.out _ _ _ _ (by decide) HC.out)
  go_wp2_with fail
  have hl2 : (xs ++ enc (zig (c1 - p1))).length ≤ 2097152 + 15 := by simp; have := enc_le (zig (c1 - p1)); omega
  refine (enc33a K n kc ws1 B _ (xs ++ enc (zig (c1 - p1))) (c2 - p2) R o cc Os1.out (Nat.le_trans HBB.out (by have := KBs1.out.size; omega)) (HT0.out.below KBs1.out) AAs1.out (by first | omega | (simp; omega)) (by omega) e2.1 e2.2).mono ?_
  rintro e ws2 ⟨vs2, rfl, os2, bs2, ks2, as2⟩
  obtain ⟨pps2, ccs2, hvs2, _, _⟩ := os2.bytes
  obtain ⟨Ns2, hNs2⟩ : ∃ N, (xs ++ enc (zig (c1 - p1)) ++ enc (zig (c2 - p2))).length = N := ⟨_, rfl⟩
  rw [hNs2] at hvs2
  subst hvs2
  have hNls2 : Ns2 ≤ 2097152 + 23 := by rw [← hNs2, List.length_append]; have := enc_le (zig (c2 - p2)); omega
  have HNs2 := Lib.hid hNs2
  clear hNs2
  have Os2 := Lib.hid os2; have KBs2 := Lib.hid (KBs1.out.trans bs2); have KKs2 := Lib.hid (KKs1.out.trans ks2); have AAs2 := Lib.hid as2
  clear os2 bs2 ks2 as2 hl2
  have q1s2 := fld3 (KKs2.out _ _ _ _ (by decide) HP.out); have q2s2 := fld3 (KKs2.out _ _ _ _ (by decide) HC.out)
  go_wp2_with fail
  have hl3 : (xs ++ enc (zig (c1 - p1)) ++ enc (zig (c2 - p2))).length ≤ 2097152 + 22 := by simp; have := enc_le (zig (c1 - p1)); have := enc_le (zig (c2 - p2)); omega
  refine (enc33a K n kc ws2 B _ (xs ++ enc (zig (c1 - p1)) ++ enc (zig (c2 - p2))) (c3 - p3) R o cc Os2.out (Nat.le_trans HBB.out (by have := KBs2.out.size; omega)) (HT0.out.below KBs2.out) AAs2.out (by first | omega | (simp; omega)) (by omega) e3.1 e3.2).mono ?_
  rintro e ws3 ⟨vs3, rfl, os3, bs3, ks3, as3⟩
  obtain ⟨pps3, ccs3, hvs3, _, _⟩ := os3.bytes
  obtain ⟨Ns3, hNs3⟩ : ∃ N, (xs ++ enc (zig (c1 - p1)) ++ enc (zig (c2 - p2)) ++ enc (zig (c3 - p3))).length = N := ⟨_, rfl⟩
  rw [hNs3] at hvs3
  subst hvs3
  have hNls3 : Ns3 ≤ 2097152 + 30 := by rw [← hNs3, List.length_append]; have := enc_le (zig (c3 - p3)); omega
  have HNs3 := Lib.hid hNs3
  clear hNs3
  have Os3 := Lib.hid os3; have KBs3 := Lib.hid (KBs2.out.trans bs3); have KKs3 := Lib.hid (KKs2.out.trans ks3); have AAs3 := Lib.hid as3
  clear os3 bs3 ks3 as3 hl3
  have q1s3 := fld4 (KKs3.out _ _ _ _ (by decide) HP.out); have q2s3 := fld4 (KKs3.out _ _ _ _ (by decide) HC.out)
  go_wp2_with fail
  have hl4 : (xs ++ enc (zig (c1 - p1)) ++ enc (zig (c2 - p2)) ++ enc (zig (c3 - p3))).length ≤ 2097152 + 29 := by simp; have := enc_le (zig (c1 - p1)); have := enc_le (zig (c2 - p2)); have := enc_le (zig (c3 - p3)); omega
  refine (enc33a K n kc ws3 B _ (xs ++ enc (zig (c1 - p1)) ++ enc (zig (c2 - p2)) ++ enc (zig (c3 - p3))) (c4 - p4) R o cc Os3.out (Nat.le_trans HBB.out (by have := KBs3.out.size; omega)) (HT0.out.below KBs3.out) AAs3.out (by first | omega | (simp; omega)) (by omega) e4.1 e4.2).mono ?_
  rintro e ws4 ⟨vs4, rfl, os4, bs4, ks4, as4⟩
  obtain ⟨pps4, ccs4, hvs4, _, _⟩ := os4.bytes
  obtain ⟨Ns4, hNs4⟩ : ∃ N, (xs ++ enc (zig (c1 - p1)) ++ enc (zig (c2 - p2)) ++ enc (zig (c3 - p3)) ++ enc (zig (c4 - p4))).length = N := ⟨_, rfl⟩
  rw [hNs4] at hvs4
  subst hvs4
  have hNls4 : Ns4 ≤ 2097152 + 37 := by rw [← hNs4, List.length_append]; have := enc_le (zig (c4 - p4)); omega
  have HNs4 := Lib.hid hNs4
  clear hNs4
  have Os4 := Lib.hid os4; have KBs4 := Lib.hid (KBs3.out.trans bs4); have KKs4 := Lib.hid (KKs3.out.trans ks4); have AAs4 := Lib.hid as4
  clear os4 bs4 ks4 as4 hl4
  have hP6 := fld6 ((keep_alloc ws4 (Obj.cells #[Value.int IntKind.u32 0] 45)) _ _ _ _ (by decide) (KKs4.out _ _ _ _ (by decide) HC.out))
  go_wp2_with fail
  have hRr := KKs4.out _ _ _ _ (by decide) HR.out
  have hrlt : w.heap.size + 1 + 1 < ws4.heap.size := (Array.getElem?_eq_some_iff.1 hRr).1
  have hRa := (keep_alloc ws4 (Obj.cells #[Value.int IntKind.u32 0] 45)) _ _ _ _ (by decide) hRr
  obtain ⟨r1, r2⟩ := ixc hRa
  have HRr := Lib.hid hRr
  clear hRr hRa
  go_region
  all_goals
    go_wp2
    (try simp only [Exit.inBlock, Exit.then])
    have hfin : ((ws4.setCell ⟨w.heap.size + 1 + 1, 0, none⟩ (Value.int IntKind.u32 0)).alloc (Obj.cells #[Value.int IntKind.u32 0] 45)).drew.heap[w.heap.size + 1 + 1]? = some (Obj.cells #[Value.int IntKind.u32 0] 45 (0, 0)) := by
      show ((ws4.setCell ⟨w.heap.size + 1 + 1, 0, none⟩ (Value.int IntKind.u32 0)).alloc (Obj.cells #[Value.int IntKind.u32 0] 45)).heap[w.heap.size + 1 + 1]? = _
      rw [heap_alloc_old _ _ (by simpa [World.setCell] using hrlt)]
      exact ix_set 0 HRr.out
    refine bodyPost_ret (v := .tuple #[.slice pps4 Ns4 ccs4, .agg #[.int .u32 0]]) ?_ rfl ⟨⟨_, rfl, ?_, ((AAs4.out.set HRr.out (by decide) _).alloc _).drew⟩, ((KBs4.out.setCell (by have := HBB.out; simp; omega) _).alloc (Nat.le_trans HBB.out (by have := KBs4.out.size; simp [World.setCell]; omega)) _).drew, (keep_set_new (K0.out.trans KKs4.out) (by omega) _).trans (keep_alloc _ _)⟩
    · rw [results_tmp_cell rfl]
      simp [asAddr, Result.andThen, run_loadVar_row _ (w.heap.size + 1 + 1) 45 45 #[.int .u32 0] (0, 0) _ hfin Tryd.underlying45 rfl (by kernel_rfl)]
    · have ho := own_set Os4.out HRr.out (by decide) (Value.int IntKind.u32 0)
      have := World.ownsRow.alloc ho (Obj.cells #[Value.int IntKind.u32 0] 45)
      exact this.drew
set_option maxRecDepth 100000 in
set_option maxHeartbeats 8000000 in
theorem apq_qfn (K n : Nat) (kc : Array Value) (w : World) (B : Nat) (v : Value) (xs : List Int) (p0 p1 p2 p3 p4 p5 : Int) (ph : Bool) (c0 c1 c2 c3 c4 c5 : Int) (R o cc : Nat) (hO : OwnB w B v xs) (hB : B ≤ w.heap.size) (hT : TabB w B R o cc) (hA : Away K kc n w v) (hn : n ≤ xs.length) (hxs : xs.length ≤ 2097152)
    (e1 : -1073741824 ≤ c1 - p1 ∧ c1 - p1 ≤ 1073741824) (e2 : -1073741824 ≤ c2 - p2 ∧ c2 - p2 ≤ 1073741824) (e3 : -1073741824 ≤ c3 - p3 ∧ c3 - p3 ≤ 1073741824) (e4 : -1073741824 ≤ c4 - p4 ∧ c4 - p4 ≤ 1073741824) (e5 : -1073741824 ≤ c5 - p5 ∧ c5 - p5 ≤ 1073741824) :
    Calls Tryd.prog 36 #[v, .int .u8 34, .agg (stV p0 p1 p2 p3 p4 p5 ph), .agg (stV c0 c1 c2 c3 c4 c5 true), .bool false] w fun e w' => (∃ v', e = .returned (.tuple #[v', .agg #[.int .u32 (flp ((xs ++ enc (zig (c1 - p1)) ++ enc (zig (c2 - p2)) ++ enc (zig (c3 - p3)) ++ enc (zig (c4 - p4))).length : Nat))]]) ∧ OwnB w' B v' (xs ++ enc (zig (c1 - p1)) ++ enc (zig (c2 - p2)) ++ enc (zig (c3 - p3)) ++ enc (zig (c4 - p4)) ++ enc (zig (c5 - p5))) ∧ Away K kc n w' v') ∧ Below B w w' ∧ Keep5 w w' := by
  obtain ⟨i0, hin, hz0, hz1, hz2⟩ := info_parts info5
  obtain ⟨W0, hW0⟩ : ∃ W0, ((w.alloc (Obj.cells (stV p0 p1 p2 p3 p4 p5 ph) 41)).alloc (Obj.cells (stV c0 c1 c2 c3 c4 c5 true) 41)).alloc (Obj.cells #[Value.int IntKind.u32 0] 45) = W0 := ⟨_, rfl⟩
  have hb0 : Below w.heap.size w W0 := by rw [← hW0]; exact (((Below.refl _ _).alloc (Nat.le_refl _) _).alloc (by simp) _).alloc (by simp; omega) _
  have hsz : W0.heap.size = w.heap.size + 1 + 1 + 1 := by rw [← hW0]; simp
  have hP : W0.heap[w.heap.size]? = some (Obj.cells (stV p0 p1 p2 p3 p4 p5 ph) 41 (0, 0)) := by
    rw [← hW0, heap_alloc_old _ _ (by simp; omega), heap_alloc_old _ _ (by simp)]; exact heap_alloc_new _ _
  have hC : W0.heap[w.heap.size + 1]? = some (Obj.cells (stV c0 c1 c2 c3 c4 c5 true) 41 (0, 0)) := by
    rw [← hW0, heap_alloc_old _ _ (by simp)]
    have := heap_alloc_new (w.alloc (Obj.cells (stV p0 p1 p2 p3 p4 p5 ph) 41)) (Obj.cells (stV c0 c1 c2 c3 c4 c5 true) 41)
    rw [show (w.alloc (Obj.cells (stV p0 p1 p2 p3 p4 p5 ph) 41)).heap.size = w.heap.size + 1 by simp] at this
    exact this
  have hR : W0.heap[w.heap.size + 1 + 1]? = some (Obj.cells #[Value.int IntKind.u32 0] 45 (0, 0)) := by
    rw [← hW0]
    have := heap_alloc_new ((w.alloc (Obj.cells (stV p0 p1 p2 p3 p4 p5 ph) 41)).alloc (Obj.cells (stV c0 c1 c2 c3 c4 c5 true) 41)) (Obj.cells #[Value.int IntKind.u32 0] 45)
    rw [show ((w.alloc (Obj.cells (stV p0 p1 p2 p3 p4 p5 ph) 41)).alloc (Obj.cells (stV c0 c1 c2 c3 c4 c5 true) 41)).heap.size = w.heap.size + 1 + 1 by simp] at this
    exact this
  have HW0 := Lib.hid hW0; have HP := Lib.hid hP; have HC := Lib.hid hC; have HR := Lib.hid hR; have HSZ := Lib.hid hsz
  have HO := Lib.hid (hO.keep hb0); have HT0 := Lib.hid hT; have HBB := Lib.hid hB; have KB := Lib.hid (hb0.mono hB)
  have HBs := Lib.hid (show B ≤ W0.heap.size from Nat.le_trans hB hb0.size)
  have KK := Lib.hid (Keep5.refl W0)
  have HA := Lib.hid (hA.keep hb0); clear hA
  have K0 := Lib.hid (show Keep5 w W0 by rw [← HW0.out]; exact ((keep_alloc w _).trans (keep_alloc _ _)).trans (keep_alloc _ _))
  clear hP hC hR hb0 hO hT hB hW0 hsz
  go_enter Tryd.func36, Tryd.ntmps36
  go_wp2_with fail
  rw [HW0.out]
  have hl1 : (xs).length ≤ 2097152 + 8 := by simp; omega
  refine (enc33a K n kc W0 B _ (xs) (c1 - p1) R o cc HO.out (Nat.le_trans HBB.out (by have := KB.out.size; omega)) (HT0.out.below KB.out) HA.out (by first | omega | (simp; omega)) (by omega) e1.1 e1.2).mono ?_
  rintro e ws1 ⟨vs1, rfl, os1, bs1, ks1, as1⟩
  obtain ⟨pps1, ccs1, hvs1, _, _⟩ := os1.bytes
  obtain ⟨Ns1, hNs1⟩ : ∃ N, (xs ++ enc (zig (c1 - p1))).length = N := ⟨_, rfl⟩
  rw [hNs1] at hvs1
  subst hvs1
  have hNls1 : Ns1 ≤ 2097152 + 16 := by rw [← hNs1, List.length_append]; have := enc_le (zig (c1 - p1)); omega
  have HNs1 := Lib.hid hNs1
  clear hNs1
  have Os1 := Lib.hid os1; have KBs1 := Lib.hid (KB.out.trans bs1); have KKs1 := Lib.hid (KK.out.trans ks1); have AAs1 := Lib.hid as1
  clear os1 bs1 ks1 as1 hl1
  have q1s1 := fld2 (KKs1.out _ _ _ _ (by decide) HP.out); have q2s1 := fld2 (KKs1.out _ _ _ _ (by decide) HC.out)
  go_wp2_with fail
  have hl2 : (xs ++ enc (zig (c1 - p1))).length ≤ 2097152 + 15 := by simp; have := enc_le (zig (c1 - p1)); omega
  refine (enc33a K n kc ws1 B _ (xs ++ enc (zig (c1 - p1))) (c2 - p2) R o cc Os1.out (Nat.le_trans HBB.out (by have := KBs1.out.size; omega)) (HT0.out.below KBs1.out) AAs1.out (by first | omega | (simp; omega)) (by omega) e2.1 e2.2).mono ?_
  rintro e ws2 ⟨vs2, rfl, os2, bs2, ks2, as2⟩
  obtain ⟨pps2, ccs2, hvs2, _, _⟩ := os2.bytes
  obtain ⟨Ns2, hNs2⟩ : ∃ N, (xs ++ enc (zig (c1 - p1)) ++ enc (zig (c2 - p2))).length = N := ⟨_, rfl⟩
  rw [hNs2] at hvs2
  subst hvs2
  have hNls2 : Ns2 ≤ 2097152 + 23 := by rw [← hNs2, List.length_append]; have := enc_le (zig (c2 - p2)); omega
  have HNs2 := Lib.hid hNs2
  clear hNs2
  have Os2 := Lib.hid os2; have KBs2 := Lib.hid (KBs1.out.trans bs2); have KKs2 := Lib.hid (KKs1.out.trans ks2); have AAs2 := Lib.hid as2
  clear os2 bs2 ks2 as2 hl2
  have q1s2 := fld3 (KKs2.out _ _ _ _ (by decide) HP.out); have q2s2 := fld3 (KKs2.out _ _ _ _ (by decide) HC.out)
  go_wp2_with fail
  have hl3 : (xs ++ enc (zig (c1 - p1)) ++ enc (zig (c2 - p2))).length ≤ 2097152 + 22 := by simp; have := enc_le (zig (c1 - p1)); have := enc_le (zig (c2 - p2)); omega
  refine (enc33a K n kc ws2 B _ (xs ++ enc (zig (c1 - p1)) ++ enc (zig (c2 - p2))) (c3 - p3) R o cc Os2.out (Nat.le_trans HBB.out (by have := KBs2.out.size; omega)) (HT0.out.below KBs2.out) AAs2.out (by first | omega | (simp; omega)) (by omega) e3.1 e3.2).mono ?_
  rintro e ws3 ⟨vs3, rfl, os3, bs3, ks3, as3⟩
  obtain ⟨pps3, ccs3, hvs3, _, _⟩ := os3.bytes
  obtain ⟨Ns3, hNs3⟩ : ∃ N, (xs ++ enc (zig (c1 - p1)) ++ enc (zig (c2 - p2)) ++ enc (zig (c3 - p3))).length = N := ⟨_, rfl⟩
  rw [hNs3] at hvs3
  subst hvs3
  have hNls3 : Ns3 ≤ 2097152 + 30 := by rw [← hNs3, List.length_append]; have := enc_le (zig (c3 - p3)); omega
  have HNs3 := Lib.hid hNs3
  clear hNs3
  have Os3 := Lib.hid os3; have KBs3 := Lib.hid (KBs2.out.trans bs3); have KKs3 := Lib.hid (KKs2.out.trans ks3); have AAs3 := Lib.hid as3
  clear os3 bs3 ks3 as3 hl3
  have q1s3 := fld4 (KKs3.out _ _ _ _ (by decide) HP.out); have q2s3 := fld4 (KKs3.out _ _ _ _ (by decide) HC.out)
  go_wp2_with fail
  have hl4 : (xs ++ enc (zig (c1 - p1)) ++ enc (zig (c2 - p2)) ++ enc (zig (c3 - p3))).length ≤ 2097152 + 29 := by simp; have := enc_le (zig (c1 - p1)); have := enc_le (zig (c2 - p2)); have := enc_le (zig (c3 - p3)); omega
  refine (enc33a K n kc ws3 B _ (xs ++ enc (zig (c1 - p1)) ++ enc (zig (c2 - p2)) ++ enc (zig (c3 - p3))) (c4 - p4) R o cc Os3.out (Nat.le_trans HBB.out (by have := KBs3.out.size; omega)) (HT0.out.below KBs3.out) AAs3.out (by first | omega | (simp; omega)) (by omega) e4.1 e4.2).mono ?_
  rintro e ws4 ⟨vs4, rfl, os4, bs4, ks4, as4⟩
  obtain ⟨pps4, ccs4, hvs4, _, _⟩ := os4.bytes
  obtain ⟨Ns4, hNs4⟩ : ∃ N, (xs ++ enc (zig (c1 - p1)) ++ enc (zig (c2 - p2)) ++ enc (zig (c3 - p3)) ++ enc (zig (c4 - p4))).length = N := ⟨_, rfl⟩
  rw [hNs4] at hvs4
  subst hvs4
  have hNls4 : Ns4 ≤ 2097152 + 37 := by rw [← hNs4, List.length_append]; have := enc_le (zig (c4 - p4)); omega
  have HNs4 := Lib.hid hNs4
  clear hNs4
  have Os4 := Lib.hid os4; have KBs4 := Lib.hid (KBs3.out.trans bs4); have KKs4 := Lib.hid (KKs3.out.trans ks4); have AAs4 := Lib.hid as4
  clear os4 bs4 ks4 as4 hl4
  have hP6 := fld6 ((keep_alloc ws4 (Obj.cells #[Value.int IntKind.u32 0] 45)) _ _ _ _ (by decide) (KKs4.out _ _ _ _ (by decide) HC.out))
  go_wp2_with fail
  refine (mk40 (Ns4 : Int) _).mono ?_
  rintro e wm ⟨rfl, bm, km⟩
  obtain ⟨F, hF⟩ : ∃ F, flp (Ns4 : Int) = F := ⟨_, rfl⟩
  rw [hF]
  rw [← HNs4.out] at hF
  have HF := Lib.hid hF
  have KKm := Lib.hid ((KKs4.out.trans (keep_alloc ws4 (Obj.cells #[Value.int IntKind.u32 0] 45))).trans km)
  have hNb := km _ _ _ _ (by decide) (heap_alloc_new ws4 (Obj.cells #[Value.int IntKind.u32 0] 45))
  have hnlt : w.heap.size + 1 + 1 < ws4.heap.size := (Array.getElem?_eq_some_iff.1 (KKs4.out _ _ _ _ (by decide) HR.out)).1
  obtain ⟨n1, n2⟩ := ixc hNb
  obtain ⟨WM, hWM⟩ : ∃ WM, wm.setCell ⟨ws4.heap.size, 0, none⟩ (.int .u32 F) = WM := ⟨_, rfl⟩
  have hPm : WM.heap[w.heap.size]? = some (Obj.cells (stV p0 p1 p2 p3 p4 p5 ph) 41 (0, 0)) := by rw [← hWM, heap_set_other _ (by omega)]; exact KKm.out _ _ _ _ (by decide) HP.out
  have hCm : WM.heap[w.heap.size + 1]? = some (Obj.cells (stV c0 c1 c2 c3 c4 c5 true) 41 (0, 0)) := by rw [← hWM, heap_set_other _ (by omega)]; exact KKm.out _ _ _ _ (by decide) HC.out
  have hRm : WM.heap[w.heap.size + 1 + 1]? = some (Obj.cells #[Value.int IntKind.u32 0] 45 (0, 0)) := by rw [← hWM, heap_set_other _ (by omega)]; exact KKm.out _ _ _ _ (by decide) HR.out
  have hNm : WM.heap[ws4.heap.size]? = some (Obj.cells #[Value.int IntKind.u32 F] 45 (0, 0)) := by rw [← hWM]; exact ix_set F hNb
  have OA := World.ownsRow.alloc Os4.out (Obj.cells #[Value.int IntKind.u32 0] 45)
  have OM := own_set (OwnB.keep OA bm) hNb (by decide) (.int .u32 F)
  rw [hWM] at OM
  have bA : Below B ws4 (ws4.alloc (Obj.cells #[Value.int IntKind.u32 0] 45)) := below_alloc1 _ _ (Nat.le_trans HBB.out (by have := KBs4.out.size; omega)) _
  have bM : Below B w WM := by rw [← hWM]; exact ((KBs4.out.trans bA).trans (bm.mono (Nat.le_trans HBB.out (by have := KBs4.out.size; simp; omega)))).setCell (Nat.le_trans HBB.out KBs4.out.size) _
  have HKM := Lib.hid (show Keep5 w WM by rw [← hWM]; exact keep_set_new (K0.out.trans KKm.out) KBs4.out.size _)
  have HAM := Lib.hid (show Away K kc n WM _ by rw [← hWM]; exact ((AAs4.out.alloc (Obj.cells #[Value.int IntKind.u32 0] 45)).keep bm).set hNb (by decide) _)
  have u1 := fld5 hPm; have u2 := fld5 hCm
  rw [← hWM] at u1 u2
  have HWM := Lib.hid hWM; have HRM := Lib.hid hRm; have HNM := Lib.hid hNm; have HOM := Lib.hid OM; have HBM := Lib.hid bM
  clear hPm hCm hRm hNm OA OM bA bM hWM bm km hNb hF hP6
  dsimp only
  go_wp2_with fail
  rw [HWM.out]
  refine (enc33a K n kc WM B _ (xs ++ enc (zig (c1 - p1)) ++ enc (zig (c2 - p2)) ++ enc (zig (c3 - p3)) ++ enc (zig (c4 - p4))) (c5 - p5) R o cc HOM.out (Nat.le_trans HBB.out HBM.out.size) (HT0.out.below HBM.out) HAM.out (by first | omega | (simp; omega)) (by rw [HNs4.out]; omega) e5.1 e5.2).mono ?_
  rintro e w5 ⟨v5, rfl, o5, b5, k5, a5⟩
  have O5 := Lib.hid o5; have KB5 := Lib.hid (HBM.out.trans b5); have K5 := Lib.hid k5; have A5 := Lib.hid a5
  have hR5 := k5 _ _ _ _ (by decide) HRM.out
  obtain ⟨r1, r2⟩ := ixc hR5
  obtain ⟨m1, m2⟩ := ixc (k5 _ _ _ _ (by decide) HNM.out)
  have HR5 := Lib.hid hR5
  clear o5 b5 k5 a5 hR5 u1 u2 n1 n2
  dsimp only
  go_wp2_with fail
  go_region
  all_goals
    go_wp2
    (try simp only [Exit.inBlock, Exit.then])
    have hfin : (w5.setCell ⟨w.heap.size + 1 + 1, 0, none⟩ (Value.int IntKind.u32 F)).drew.heap[w.heap.size + 1 + 1]? = some (Obj.cells #[Value.int IntKind.u32 F] 45 (0, 0)) := ix_set F HR5.out
    refine bodyPost_ret (v := .tuple #[v5, .agg #[.int .u32 F]]) ?_ rfl ⟨⟨_, by rw [← HF.out], ?_, (A5.out.set HR5.out (by decide) _).drew⟩, (KB5.out.setCell (by have := HBB.out; simp; omega) _).drew, keep_set_new (HKM.out.trans K5.out) (by omega) _⟩
    · rw [results_tmp_cell rfl]
      simp [asAddr, Result.andThen, run_loadVar_row _ (w.heap.size + 1 + 1) 45 45 #[.int .u32 F] (0, 0) _ hfin Tryd.underlying45 rfl (by kernel_rfl)]
    · have ho := own_set O5.out HR5.out (by decide) (Value.int IntKind.u32 F)
      exact World.ownsRow.drew ho
set_option maxRecDepth 100000 in
set_option maxHeartbeats 8000000 in
theorem apq_cop (K n : Nat) (kc : Array Value) (w : World) (B : Nat) (v : Value) (xs : List Int) (lb : Int) (k0 : (lb != 0) = true) (k1 : (lb != 59) = true) (k2 : (lb != 34) = true) (p0 p1 p2 p3 p4 p5 : Int) (ph : Bool) (c0 c1 c2 c3 c4 c5 : Int) (R o cc : Nat) (hO : OwnB w B v xs) (hB : B ≤ w.heap.size) (hT : TabB w B R o cc) (hA : Away K kc n w v) (hn : n ≤ xs.length) (hxs : xs.length ≤ 2097152)
    (e1 : -1073741824 ≤ c1 - p1 ∧ c1 - p1 ≤ 1073741824) (e2 : -1073741824 ≤ c2 - p2 ∧ c2 - p2 ≤ 1073741824) (e3 : -1073741824 ≤ c3 - p3 ∧ c3 - p3 ≤ 1073741824) (e4 : -1073741824 ≤ c4 - p4 ∧ c4 - p4 ≤ 1073741824) (e5 : -1073741824 ≤ c5 - p5 ∧ c5 - p5 ≤ 1073741824) :
    Calls Tryd.prog 36 #[v, .int .u8 lb, .agg (stV p0 p1 p2 p3 p4 p5 ph), .agg (stV c0 c1 c2 c3 c4 c5 false), .bool true] w fun e w' => (∃ v', e = .returned (.tuple #[v', .agg #[.int .u32 (0)]]) ∧ OwnB w' B v' (xs ++ [44] ++ enc (zig (c1 - p1))) ∧ Away K kc n w' v') ∧ Below B w w' ∧ Keep5 w w' := by
  obtain ⟨i0, hin, hz0, hz1, hz2⟩ := info_parts info5
  obtain ⟨W0, hW0⟩ : ∃ W0, ((w.alloc (Obj.cells (stV p0 p1 p2 p3 p4 p5 ph) 41)).alloc (Obj.cells (stV c0 c1 c2 c3 c4 c5 false) 41)).alloc (Obj.cells #[Value.int IntKind.u32 0] 45) = W0 := ⟨_, rfl⟩
  have hb0 : Below w.heap.size w W0 := by rw [← hW0]; exact (((Below.refl _ _).alloc (Nat.le_refl _) _).alloc (by simp) _).alloc (by simp; omega) _
  have hsz : W0.heap.size = w.heap.size + 1 + 1 + 1 := by rw [← hW0]; simp
  have hP : W0.heap[w.heap.size]? = some (Obj.cells (stV p0 p1 p2 p3 p4 p5 ph) 41 (0, 0)) := by
    rw [← hW0, heap_alloc_old _ _ (by simp; omega), heap_alloc_old _ _ (by simp)]; exact heap_alloc_new _ _
  have hC : W0.heap[w.heap.size + 1]? = some (Obj.cells (stV c0 c1 c2 c3 c4 c5 false) 41 (0, 0)) := by
    rw [← hW0, heap_alloc_old _ _ (by simp)]
    have := heap_alloc_new (w.alloc (Obj.cells (stV p0 p1 p2 p3 p4 p5 ph) 41)) (Obj.cells (stV c0 c1 c2 c3 c4 c5 false) 41)
    rw [show (w.alloc (Obj.cells (stV p0 p1 p2 p3 p4 p5 ph) 41)).heap.size = w.heap.size + 1 by simp] at this
    exact this
  have hR : W0.heap[w.heap.size + 1 + 1]? = some (Obj.cells #[Value.int IntKind.u32 0] 45 (0, 0)) := by
    rw [← hW0]
    have := heap_alloc_new ((w.alloc (Obj.cells (stV p0 p1 p2 p3 p4 p5 ph) 41)).alloc (Obj.cells (stV c0 c1 c2 c3 c4 c5 false) 41)) (Obj.cells #[Value.int IntKind.u32 0] 45)
    rw [show ((w.alloc (Obj.cells (stV p0 p1 p2 p3 p4 p5 ph) 41)).alloc (Obj.cells (stV c0 c1 c2 c3 c4 c5 false) 41)).heap.size = w.heap.size + 1 + 1 by simp] at this
    exact this
  have HW0 := Lib.hid hW0; have HP := Lib.hid hP; have HC := Lib.hid hC; have HR := Lib.hid hR; have HSZ := Lib.hid hsz
  have HO := Lib.hid (hO.keep hb0); have HT0 := Lib.hid hT; have HBB := Lib.hid hB; have KB := Lib.hid (hb0.mono hB)
  have HBs := Lib.hid (show B ≤ W0.heap.size from Nat.le_trans hB hb0.size)
  have KK := Lib.hid (Keep5.refl W0)
  have HA := Lib.hid (hA.keep hb0); clear hA
  have K0 := Lib.hid (show Keep5 w W0 by rw [← HW0.out]; exact ((keep_alloc w _).trans (keep_alloc _ _)).trans (keep_alloc _ _))
  clear hP hC hR hb0 hO hT hB hW0 hsz
  have HOA := Lib.hid (World.ownsRow.alloc HO.out (.cells #[.int .u8 44] 5))
  have HCO := Lib.hid (show ∀ j u, [Value.int .u8 44][j]? = some u → (W0.alloc (.cells #[.int .u8 44] 5)).cell? ((⟨w.heap.size + 1 + 1 + 1, 0, none⟩ : Addr).add j) = some u by rw [← HSZ.out]; exact cell_one _ _ _)
  go_enter Tryd.func36, Tryd.ntmps36
  go_wp2_with (at_builtin; rw [HW0.out]; refine wpList_append_own _ rfl (.tmp 23) (.tmp 24) 22 rfl B 5 i0 (.int .u8 0) 1 1 Tryd.underlying22 hin hz0 hz1 hz2 rfl (by decide) v xs.length (cellsB xs) rfl HOA.out ⟨w.heap.size + 1 + 1 + 1, 0, none⟩ 1 1 [.int .u8 44] rfl rfl HCO.out (by intro u hu; simp at hu; subst hu; rfl) (by unfold maxLen; omega) (by omega) (by have := HBs.out; simp; omega) ?_; intro v1 w1 hown1 hg1 hnil1; have O1 := Lib.hid (own_app hown1); have KB1 := Lib.hid (KB.out.trans ((below_alloc1 W0 B HBs.out _).trans (below_grown hg1 B (by have := HBs.out; simp; omega) HO.out.lt))); have KK1 := Lib.hid (keep_app HO.out hg1); have AA1 := Lib.hid (away_app HA.out hn hg1 O1.out); have q1 := fld1 (KK1.out _ _ _ _ (by decide) HP.out); have q2 := fld1 (KK1.out _ _ _ _ (by decide) HC.out); clear hown1 hg1 hnil1)
  have hl1 : (xs ++ [44]).length ≤ 2097152 + 8 := by simp; omega
  refine (enc33a K n kc w1 B _ (xs ++ [44]) (c1 - p1) R o cc O1.out (Nat.le_trans HBB.out (by have := KB1.out.size; omega)) (HT0.out.below KB1.out) AA1.out (by first | omega | (simp; omega)) (by omega) e1.1 e1.2).mono ?_
  rintro e ws1 ⟨vs1, rfl, os1, bs1, ks1, as1⟩
  obtain ⟨pps1, ccs1, hvs1, _, _⟩ := os1.bytes
  obtain ⟨Ns1, hNs1⟩ : ∃ N, (xs ++ [44] ++ enc (zig (c1 - p1))).length = N := ⟨_, rfl⟩
  rw [hNs1] at hvs1
  subst hvs1
  have hNls1 : Ns1 ≤ 2097152 + 16 := by rw [← hNs1, List.length_append]; have := enc_le (zig (c1 - p1)); omega
  have HNs1 := Lib.hid hNs1
  clear hNs1
  have Os1 := Lib.hid os1; have KBs1 := Lib.hid (KB1.out.trans bs1); have KKs1 := Lib.hid (KK1.out.trans ks1); have AAs1 := Lib.hid as1
  clear os1 bs1 ks1 as1 hl1
  have hP6 := fld6 ((keep_alloc ws1 (Obj.cells #[Value.int IntKind.u32 0] 45)) _ _ _ _ (by decide) (KKs1.out _ _ _ _ (by decide) HC.out))
  go_wp2_with fail
  have hRr := KKs1.out _ _ _ _ (by decide) HR.out
  have hrlt : w.heap.size + 1 + 1 < ws1.heap.size := (Array.getElem?_eq_some_iff.1 hRr).1
  have hRa := (keep_alloc ws1 (Obj.cells #[Value.int IntKind.u32 0] 45)) _ _ _ _ (by decide) hRr
  obtain ⟨r1, r2⟩ := ixc hRa
  have HRr := Lib.hid hRr
  clear hRr hRa
  go_region
  all_goals
    go_wp2
    (try simp only [Exit.inBlock, Exit.then])
    have hfin : ((ws1.setCell ⟨w.heap.size + 1 + 1, 0, none⟩ (Value.int IntKind.u32 0)).alloc (Obj.cells #[Value.int IntKind.u32 0] 45)).drew.heap[w.heap.size + 1 + 1]? = some (Obj.cells #[Value.int IntKind.u32 0] 45 (0, 0)) := by
      show ((ws1.setCell ⟨w.heap.size + 1 + 1, 0, none⟩ (Value.int IntKind.u32 0)).alloc (Obj.cells #[Value.int IntKind.u32 0] 45)).heap[w.heap.size + 1 + 1]? = _
      rw [heap_alloc_old _ _ (by simpa [World.setCell] using hrlt)]
      exact ix_set 0 HRr.out
    refine bodyPost_ret (v := .tuple #[.slice pps1 Ns1 ccs1, .agg #[.int .u32 0]]) ?_ rfl ⟨⟨_, rfl, ?_, ((AAs1.out.set HRr.out (by decide) _).alloc _).drew⟩, ((KBs1.out.setCell (by have := HBB.out; simp; omega) _).alloc (Nat.le_trans HBB.out (by have := KBs1.out.size; simp [World.setCell]; omega)) _).drew, (keep_set_new (K0.out.trans KKs1.out) (by omega) _).trans (keep_alloc _ _)⟩
    · rw [results_tmp_cell rfl]
      simp [asAddr, Result.andThen, run_loadVar_row _ (w.heap.size + 1 + 1) 45 45 #[.int .u32 0] (0, 0) _ hfin Tryd.underlying45 rfl (by kernel_rfl)]
    · have ho := own_set Os1.out HRr.out (by decide) (Value.int IntKind.u32 0)
      have := World.ownsRow.alloc ho (Obj.cells #[Value.int IntKind.u32 0] 45)
      exact this.drew
set_option maxRecDepth 100000 in
set_option maxHeartbeats 8000000 in
theorem apq_con (K n : Nat) (kc : Array Value) (w : World) (B : Nat) (v : Value) (xs : List Int) (lb : Int) (k0 : (lb != 0) = true) (k1 : (lb != 59) = true) (k2 : (lb != 34) = true) (p0 p1 p2 p3 p4 p5 : Int) (ph : Bool) (c0 c1 c2 c3 c4 c5 : Int) (R o cc : Nat) (hO : OwnB w B v xs) (hB : B ≤ w.heap.size) (hT : TabB w B R o cc) (hA : Away K kc n w v) (hn : n ≤ xs.length) (hxs : xs.length ≤ 2097152)
    (e1 : -1073741824 ≤ c1 - p1 ∧ c1 - p1 ≤ 1073741824) (e2 : -1073741824 ≤ c2 - p2 ∧ c2 - p2 ≤ 1073741824) (e3 : -1073741824 ≤ c3 - p3 ∧ c3 - p3 ≤ 1073741824) (e4 : -1073741824 ≤ c4 - p4 ∧ c4 - p4 ≤ 1073741824) (e5 : -1073741824 ≤ c5 - p5 ∧ c5 - p5 ≤ 1073741824) :
    Calls Tryd.prog 36 #[v, .int .u8 lb, .agg (stV p0 p1 p2 p3 p4 p5 ph), .agg (stV c0 c1 c2 c3 c4 c5 true), .bool true] w fun e w' => (∃ v', e = .returned (.tuple #[v', .agg #[.int .u32 (flp ((xs ++ [44] ++ enc (zig (c1 - p1))).length : Nat))]]) ∧ OwnB w' B v' (xs ++ [44] ++ enc (zig (c1 - p1)) ++ enc (zig (c5 - p5))) ∧ Away K kc n w' v') ∧ Below B w w' ∧ Keep5 w w' := by
  obtain ⟨i0, hin, hz0, hz1, hz2⟩ := info_parts info5
  obtain ⟨W0, hW0⟩ : ∃ W0, ((w.alloc (Obj.cells (stV p0 p1 p2 p3 p4 p5 ph) 41)).alloc (Obj.cells (stV c0 c1 c2 c3 c4 c5 true) 41)).alloc (Obj.cells #[Value.int IntKind.u32 0] 45) = W0 := ⟨_, rfl⟩
  have hb0 : Below w.heap.size w W0 := by rw [← hW0]; exact (((Below.refl _ _).alloc (Nat.le_refl _) _).alloc (by simp) _).alloc (by simp; omega) _
  have hsz : W0.heap.size = w.heap.size + 1 + 1 + 1 := by rw [← hW0]; simp
  have hP : W0.heap[w.heap.size]? = some (Obj.cells (stV p0 p1 p2 p3 p4 p5 ph) 41 (0, 0)) := by
    rw [← hW0, heap_alloc_old _ _ (by simp; omega), heap_alloc_old _ _ (by simp)]; exact heap_alloc_new _ _
  have hC : W0.heap[w.heap.size + 1]? = some (Obj.cells (stV c0 c1 c2 c3 c4 c5 true) 41 (0, 0)) := by
    rw [← hW0, heap_alloc_old _ _ (by simp)]
    have := heap_alloc_new (w.alloc (Obj.cells (stV p0 p1 p2 p3 p4 p5 ph) 41)) (Obj.cells (stV c0 c1 c2 c3 c4 c5 true) 41)
    rw [show (w.alloc (Obj.cells (stV p0 p1 p2 p3 p4 p5 ph) 41)).heap.size = w.heap.size + 1 by simp] at this
    exact this
  have hR : W0.heap[w.heap.size + 1 + 1]? = some (Obj.cells #[Value.int IntKind.u32 0] 45 (0, 0)) := by
    rw [← hW0]
    have := heap_alloc_new ((w.alloc (Obj.cells (stV p0 p1 p2 p3 p4 p5 ph) 41)).alloc (Obj.cells (stV c0 c1 c2 c3 c4 c5 true) 41)) (Obj.cells #[Value.int IntKind.u32 0] 45)
    rw [show ((w.alloc (Obj.cells (stV p0 p1 p2 p3 p4 p5 ph) 41)).alloc (Obj.cells (stV c0 c1 c2 c3 c4 c5 true) 41)).heap.size = w.heap.size + 1 + 1 by simp] at this
    exact this
  have HW0 := Lib.hid hW0; have HP := Lib.hid hP; have HC := Lib.hid hC; have HR := Lib.hid hR; have HSZ := Lib.hid hsz
  have HO := Lib.hid (hO.keep hb0); have HT0 := Lib.hid hT; have HBB := Lib.hid hB; have KB := Lib.hid (hb0.mono hB)
  have HBs := Lib.hid (show B ≤ W0.heap.size from Nat.le_trans hB hb0.size)
  have KK := Lib.hid (Keep5.refl W0)
  have HA := Lib.hid (hA.keep hb0); clear hA
  have K0 := Lib.hid (show Keep5 w W0 by rw [← HW0.out]; exact ((keep_alloc w _).trans (keep_alloc _ _)).trans (keep_alloc _ _))
  clear hP hC hR hb0 hO hT hB hW0 hsz
  have HOA := Lib.hid (World.ownsRow.alloc HO.out (.cells #[.int .u8 44] 5))
  have HCO := Lib.hid (show ∀ j u, [Value.int .u8 44][j]? = some u → (W0.alloc (.cells #[.int .u8 44] 5)).cell? ((⟨w.heap.size + 1 + 1 + 1, 0, none⟩ : Addr).add j) = some u by rw [← HSZ.out]; exact cell_one _ _ _)
  go_enter Tryd.func36, Tryd.ntmps36
  go_wp2_with (at_builtin; rw [HW0.out]; refine wpList_append_own _ rfl (.tmp 23) (.tmp 24) 22 rfl B 5 i0 (.int .u8 0) 1 1 Tryd.underlying22 hin hz0 hz1 hz2 rfl (by decide) v xs.length (cellsB xs) rfl HOA.out ⟨w.heap.size + 1 + 1 + 1, 0, none⟩ 1 1 [.int .u8 44] rfl rfl HCO.out (by intro u hu; simp at hu; subst hu; rfl) (by unfold maxLen; omega) (by omega) (by have := HBs.out; simp; omega) ?_; intro v1 w1 hown1 hg1 hnil1; have O1 := Lib.hid (own_app hown1); have KB1 := Lib.hid (KB.out.trans ((below_alloc1 W0 B HBs.out _).trans (below_grown hg1 B (by have := HBs.out; simp; omega) HO.out.lt))); have KK1 := Lib.hid (keep_app HO.out hg1); have AA1 := Lib.hid (away_app HA.out hn hg1 O1.out); have q1 := fld1 (KK1.out _ _ _ _ (by decide) HP.out); have q2 := fld1 (KK1.out _ _ _ _ (by decide) HC.out); clear hown1 hg1 hnil1)
  have hl1 : (xs ++ [44]).length ≤ 2097152 + 8 := by simp; omega
  refine (enc33a K n kc w1 B _ (xs ++ [44]) (c1 - p1) R o cc O1.out (Nat.le_trans HBB.out (by have := KB1.out.size; omega)) (HT0.out.below KB1.out) AA1.out (by first | omega | (simp; omega)) (by omega) e1.1 e1.2).mono ?_
  rintro e ws1 ⟨vs1, rfl, os1, bs1, ks1, as1⟩
  obtain ⟨pps1, ccs1, hvs1, _, _⟩ := os1.bytes
  obtain ⟨Ns1, hNs1⟩ : ∃ N, (xs ++ [44] ++ enc (zig (c1 - p1))).length = N := ⟨_, rfl⟩
  rw [hNs1] at hvs1
  subst hvs1
  have hNls1 : Ns1 ≤ 2097152 + 16 := by rw [← hNs1, List.length_append]; have := enc_le (zig (c1 - p1)); omega
  have HNs1 := Lib.hid hNs1
  clear hNs1
  have Os1 := Lib.hid os1; have KBs1 := Lib.hid (KB1.out.trans bs1); have KKs1 := Lib.hid (KK1.out.trans ks1); have AAs1 := Lib.hid as1
  clear os1 bs1 ks1 as1 hl1
  have hP6 := fld6 ((keep_alloc ws1 (Obj.cells #[Value.int IntKind.u32 0] 45)) _ _ _ _ (by decide) (KKs1.out _ _ _ _ (by decide) HC.out))
  go_wp2_with fail
  refine (mk40 (Ns1 : Int) _).mono ?_
  rintro e wm ⟨rfl, bm, km⟩
  obtain ⟨F, hF⟩ : ∃ F, flp (Ns1 : Int) = F := ⟨_, rfl⟩
  rw [hF]
  rw [← HNs1.out] at hF
  have HF := Lib.hid hF
  have KKm := Lib.hid ((KKs1.out.trans (keep_alloc ws1 (Obj.cells #[Value.int IntKind.u32 0] 45))).trans km)
  have hNb := km _ _ _ _ (by decide) (heap_alloc_new ws1 (Obj.cells #[Value.int IntKind.u32 0] 45))
  have hnlt : w.heap.size + 1 + 1 < ws1.heap.size := (Array.getElem?_eq_some_iff.1 (KKs1.out _ _ _ _ (by decide) HR.out)).1
  obtain ⟨n1, n2⟩ := ixc hNb
  obtain ⟨WM, hWM⟩ : ∃ WM, wm.setCell ⟨ws1.heap.size, 0, none⟩ (.int .u32 F) = WM := ⟨_, rfl⟩
  have hPm : WM.heap[w.heap.size]? = some (Obj.cells (stV p0 p1 p2 p3 p4 p5 ph) 41 (0, 0)) := by rw [← hWM, heap_set_other _ (by omega)]; exact KKm.out _ _ _ _ (by decide) HP.out
  have hCm : WM.heap[w.heap.size + 1]? = some (Obj.cells (stV c0 c1 c2 c3 c4 c5 true) 41 (0, 0)) := by rw [← hWM, heap_set_other _ (by omega)]; exact KKm.out _ _ _ _ (by decide) HC.out
  have hRm : WM.heap[w.heap.size + 1 + 1]? = some (Obj.cells #[Value.int IntKind.u32 0] 45 (0, 0)) := by rw [← hWM, heap_set_other _ (by omega)]; exact KKm.out _ _ _ _ (by decide) HR.out
  have hNm : WM.heap[ws1.heap.size]? = some (Obj.cells #[Value.int IntKind.u32 F] 45 (0, 0)) := by rw [← hWM]; exact ix_set F hNb
  have OA := World.ownsRow.alloc Os1.out (Obj.cells #[Value.int IntKind.u32 0] 45)
  have OM := own_set (OwnB.keep OA bm) hNb (by decide) (.int .u32 F)
  rw [hWM] at OM
  have bA : Below B ws1 (ws1.alloc (Obj.cells #[Value.int IntKind.u32 0] 45)) := below_alloc1 _ _ (Nat.le_trans HBB.out (by have := KBs1.out.size; omega)) _
  have bM : Below B w WM := by rw [← hWM]; exact ((KBs1.out.trans bA).trans (bm.mono (Nat.le_trans HBB.out (by have := KBs1.out.size; simp; omega)))).setCell (Nat.le_trans HBB.out KBs1.out.size) _
  have HKM := Lib.hid (show Keep5 w WM by rw [← hWM]; exact keep_set_new (K0.out.trans KKm.out) KBs1.out.size _)
  have HAM := Lib.hid (show Away K kc n WM _ by rw [← hWM]; exact ((AAs1.out.alloc (Obj.cells #[Value.int IntKind.u32 0] 45)).keep bm).set hNb (by decide) _)
  have u1 := fld5 hPm; have u2 := fld5 hCm
  rw [← hWM] at u1 u2
  have HWM := Lib.hid hWM; have HRM := Lib.hid hRm; have HNM := Lib.hid hNm; have HOM := Lib.hid OM; have HBM := Lib.hid bM
  clear hPm hCm hRm hNm OA OM bA bM hWM bm km hNb hF hP6
  dsimp only
  go_wp2_with fail
  rw [HWM.out]
  refine (enc33a K n kc WM B _ (xs ++ [44] ++ enc (zig (c1 - p1))) (c5 - p5) R o cc HOM.out (Nat.le_trans HBB.out HBM.out.size) (HT0.out.below HBM.out) HAM.out (by first | omega | (simp; omega)) (by rw [HNs1.out]; omega) e5.1 e5.2).mono ?_
  rintro e w5 ⟨v5, rfl, o5, b5, k5, a5⟩
  have O5 := Lib.hid o5; have KB5 := Lib.hid (HBM.out.trans b5); have K5 := Lib.hid k5; have A5 := Lib.hid a5
  have hR5 := k5 _ _ _ _ (by decide) HRM.out
  obtain ⟨r1, r2⟩ := ixc hR5
  obtain ⟨m1, m2⟩ := ixc (k5 _ _ _ _ (by decide) HNM.out)
  have HR5 := Lib.hid hR5
  clear o5 b5 k5 a5 hR5 u1 u2 n1 n2
  dsimp only
  go_wp2_with fail
  go_region
  all_goals
    go_wp2
    (try simp only [Exit.inBlock, Exit.then])
    have hfin : (w5.setCell ⟨w.heap.size + 1 + 1, 0, none⟩ (Value.int IntKind.u32 F)).drew.heap[w.heap.size + 1 + 1]? = some (Obj.cells #[Value.int IntKind.u32 F] 45 (0, 0)) := ix_set F HR5.out
    refine bodyPost_ret (v := .tuple #[v5, .agg #[.int .u32 F]]) ?_ rfl ⟨⟨_, by rw [← HF.out], ?_, (A5.out.set HR5.out (by decide) _).drew⟩, (KB5.out.setCell (by have := HBB.out; simp; omega) _).drew, keep_set_new (HKM.out.trans K5.out) (by omega) _⟩
    · rw [results_tmp_cell rfl]
      simp [asAddr, Result.andThen, run_loadVar_row _ (w.heap.size + 1 + 1) 45 45 #[.int .u32 F] (0, 0) _ hfin Tryd.underlying45 rfl (by kernel_rfl)]
    · have ho := own_set O5.out HR5.out (by decide) (Value.int IntKind.u32 F)
      exact World.ownsRow.drew ho
set_option maxRecDepth 100000 in
set_option maxHeartbeats 8000000 in
theorem apq_cfp (K n : Nat) (kc : Array Value) (w : World) (B : Nat) (v : Value) (xs : List Int) (lb : Int) (k0 : (lb != 0) = true) (k1 : (lb != 59) = true) (k2 : (lb != 34) = true) (p0 p1 p2 p3 p4 p5 : Int) (ph : Bool) (c0 c1 c2 c3 c4 c5 : Int) (R o cc : Nat) (hO : OwnB w B v xs) (hB : B ≤ w.heap.size) (hT : TabB w B R o cc) (hA : Away K kc n w v) (hn : n ≤ xs.length) (hxs : xs.length ≤ 2097152)
    (e1 : -1073741824 ≤ c1 - p1 ∧ c1 - p1 ≤ 1073741824) (e2 : -1073741824 ≤ c2 - p2 ∧ c2 - p2 ≤ 1073741824) (e3 : -1073741824 ≤ c3 - p3 ∧ c3 - p3 ≤ 1073741824) (e4 : -1073741824 ≤ c4 - p4 ∧ c4 - p4 ≤ 1073741824) (e5 : -1073741824 ≤ c5 - p5 ∧ c5 - p5 ≤ 1073741824) :
    Calls Tryd.prog 36 #[v, .int .u8 lb, .agg (stV p0 p1 p2 p3 p4 p5 ph), .agg (stV c0 c1 c2 c3 c4 c5 false), .bool false] w fun e w' => (∃ v', e = .returned (.tuple #[v', .agg #[.int .u32 (0)]]) ∧ OwnB w' B v' (xs ++ [44] ++ enc (zig (c1 - p1)) ++ enc (zig (c2 - p2)) ++ enc (zig (c3 - p3)) ++ enc (zig (c4 - p4))) ∧ Away K kc n w' v') ∧ Below B w w' ∧ Keep5 w w' := by
  obtain ⟨i0, hin, hz0, hz1, hz2⟩ := info_parts info5
  obtain ⟨W0, hW0⟩ : ∃ W0, ((w.alloc (Obj.cells (stV p0 p1 p2 p3 p4 p5 ph) 41)).alloc (Obj.cells (stV c0 c1 c2 c3 c4 c5 false) 41)).alloc (Obj.cells #[Value.int IntKind.u32 0] 45) = W0 := ⟨_, rfl⟩
  have hb0 : Below w.heap.size w W0 := by rw [← hW0]; exact (((Below.refl _ _).alloc (Nat.le_refl _) _).alloc (by simp) _).alloc (by simp; omega) _
  have hsz : W0.heap.size = w.heap.size + 1 + 1 + 1 := by rw [← hW0]; simp
  have hP : W0.heap[w.heap.size]? = some (Obj.cells (stV p0 p1 p2 p3 p4 p5 ph) 41 (0, 0)) := by
    rw [← hW0, heap_alloc_old _ _ (by simp; omega), heap_alloc_old _ _ (by simp)]; exact heap_alloc_new _ _
  have hC : W0.heap[w.heap.size + 1]? = some (Obj.cells (stV c0 c1 c2 c3 c4 c5 false) 41 (0, 0)) := by
    rw [← hW0, heap_alloc_old _ _ (by simp)]
    have := heap_alloc_new (w.alloc (Obj.cells (stV p0 p1 p2 p3 p4 p5 ph) 41)) (Obj.cells (stV c0 c1 c2 c3 c4 c5 false) 41)
    rw [show (w.alloc (Obj.cells (stV p0 p1 p2 p3 p4 p5 ph) 41)).heap.size = w.heap.size + 1 by simp] at this
    exact this
  have hR : W0.heap[w.heap.size + 1 + 1]? = some (Obj.cells #[Value.int IntKind.u32 0] 45 (0, 0)) := by
    rw [← hW0]
    have := heap_alloc_new ((w.alloc (Obj.cells (stV p0 p1 p2 p3 p4 p5 ph) 41)).alloc (Obj.cells (stV c0 c1 c2 c3 c4 c5 false) 41)) (Obj.cells #[Value.int IntKind.u32 0] 45)
    rw [show ((w.alloc (Obj.cells (stV p0 p1 p2 p3 p4 p5 ph) 41)).alloc (Obj.cells (stV c0 c1 c2 c3 c4 c5 false) 41)).heap.size = w.heap.size + 1 + 1 by simp] at this
    exact this
  have HW0 := Lib.hid hW0; have HP := Lib.hid hP; have HC := Lib.hid hC; have HR := Lib.hid hR; have HSZ := Lib.hid hsz
  have HO := Lib.hid (hO.keep hb0); have HT0 := Lib.hid hT; have HBB := Lib.hid hB; have KB := Lib.hid (hb0.mono hB)
  have HBs := Lib.hid (show B ≤ W0.heap.size from Nat.le_trans hB hb0.size)
  have KK := Lib.hid (Keep5.refl W0)
  have HA := Lib.hid (hA.keep hb0); clear hA
  have K0 := Lib.hid (show Keep5 w W0 by rw [← HW0.out]; exact ((keep_alloc w _).trans (keep_alloc _ _)).trans (keep_alloc _ _))
  clear hP hC hR hb0 hO hT hB hW0 hsz
  have HOA := Lib.hid (World.ownsRow.alloc HO.out (.cells #[.int .u8 44] 5))
  have HCO := Lib.hid (show ∀ j u, [Value.int .u8 44][j]? = some u → (W0.alloc (.cells #[.int .u8 44] 5)).cell? ((⟨w.heap.size + 1 + 1 + 1, 0, none⟩ : Addr).add j) = some u by rw [← HSZ.out]; exact cell_one _ _ _)
  go_enter Tryd.func36, Tryd.ntmps36
  go_wp2_with (at_builtin; rw [HW0.out]; refine wpList_append_own _ rfl (.tmp 23) (.tmp 24) 22 rfl B 5 i0 (.int .u8 0) 1 1 Tryd.underlying22 hin hz0 hz1 hz2 rfl (by decide) v xs.length (cellsB xs) rfl HOA.out ⟨w.heap.size + 1 + 1 + 1, 0, none⟩ 1 1 [.int .u8 44] rfl rfl HCO.out (by intro u hu; simp at hu; subst hu; rfl) (by unfold maxLen; omega) (by omega) (by have := HBs.out; simp; omega) ?_; intro v1 w1 hown1 hg1 hnil1; have O1 := Lib.hid (own_app hown1); have KB1 := Lib.hid (KB.out.trans ((below_alloc1 W0 B HBs.out _).trans (below_grown hg1 B (by have := HBs.out; simp; omega) HO.out.lt))); have KK1 := Lib.hid (keep_app HO.out hg1); have AA1 := Lib.hid (away_app HA.out hn hg1 O1.out); have q1 := fld1 (KK1.out _ _ _ _ (by decide) HP.out); have q2 := fld1 (KK1.out _ _ _ _ (by decide) HC.out); clear hown1 hg1 hnil1)
  have hl1 : (xs ++ [44]).length ≤ 2097152 + 8 := by simp; omega
  refine (enc33a K n kc w1 B _ (xs ++ [44]) (c1 - p1) R o cc O1.out (Nat.le_trans HBB.out (by have := KB1.out.size; omega)) (HT0.out.below KB1.out) AA1.out (by first | omega | (simp; omega)) (by omega) e1.1 e1.2).mono ?_
  rintro e ws1 ⟨vs1, rfl, os1, bs1, ks1, as1⟩
  obtain ⟨pps1, ccs1, hvs1, _, _⟩ := os1.bytes
  obtain ⟨Ns1, hNs1⟩ : ∃ N, (xs ++ [44] ++ enc (zig (c1 - p1))).length = N := ⟨_, rfl⟩
  rw [hNs1] at hvs1
  subst hvs1
  have hNls1 : Ns1 ≤ 2097152 + 16 := by rw [← hNs1, List.length_append]; have := enc_le (zig (c1 - p1)); omega
  have HNs1 := Lib.hid hNs1
  clear hNs1
  have Os1 := Lib.hid os1; have KBs1 := Lib.hid (KB1.out.trans bs1); have KKs1 := Lib.hid (KK1.out.trans ks1); have AAs1 := Lib.hid as1
  clear os1 bs1 ks1 as1 hl1
  have q1s1 := fld2 (KKs1.out _ _ _ _ (by decide) HP.out); have q2s1 := fld2 (KKs1.out _ _ _ _ (by decide) HC.out)
  go_wp2_with fail
  have hl2 : (xs ++ [44] ++ enc (zig (c1 - p1))).length ≤ 2097152 + 15 := by simp; have := enc_le (zig (c1 - p1)); omega
  refine (enc33a K n kc ws1 B _ (xs ++ [44] ++ enc (zig (c1 - p1))) (c2 - p2) R o cc Os1.out (Nat.le_trans HBB.out (by have := KBs1.out.size; omega)) (HT0.out.below KBs1.out) AAs1.out (by first | omega | (simp; omega)) (by omega) e2.1 e2.2).mono ?_
  rintro e ws2 ⟨vs2, rfl, os2, bs2, ks2, as2⟩
  obtain ⟨pps2, ccs2, hvs2, _, _⟩ := os2.bytes
  obtain ⟨Ns2, hNs2⟩ : ∃ N, (xs ++ [44] ++ enc (zig (c1 - p1)) ++ enc (zig (c2 - p2))).length = N := ⟨_, rfl⟩
  rw [hNs2] at hvs2
  subst hvs2
  have hNls2 : Ns2 ≤ 2097152 + 23 := by rw [← hNs2, List.length_append]; have := enc_le (zig (c2 - p2)); omega
  have HNs2 := Lib.hid hNs2
  clear hNs2
  have Os2 := Lib.hid os2; have KBs2 := Lib.hid (KBs1.out.trans bs2); have KKs2 := Lib.hid (KKs1.out.trans ks2); have AAs2 := Lib.hid as2
  clear os2 bs2 ks2 as2 hl2
  have q1s2 := fld3 (KKs2.out _ _ _ _ (by decide) HP.out); have q2s2 := fld3 (KKs2.out _ _ _ _ (by decide) HC.out)
  go_wp2_with fail
  have hl3 : (xs ++ [44] ++ enc (zig (c1 - p1)) ++ enc (zig (c2 - p2))).length ≤ 2097152 + 22 := by simp; have := enc_le (zig (c1 - p1)); have := enc_le (zig (c2 - p2)); omega
  refine (enc33a K n kc ws2 B _ (xs ++ [44] ++ enc (zig (c1 - p1)) ++ enc (zig (c2 - p2))) (c3 - p3) R o cc Os2.out (Nat.le_trans HBB.out (by have := KBs2.out.size; omega)) (HT0.out.below KBs2.out) AAs2.out (by first | omega | (simp; omega)) (by omega) e3.1 e3.2).mono ?_
  rintro e ws3 ⟨vs3, rfl, os3, bs3, ks3, as3⟩
  obtain ⟨pps3, ccs3, hvs3, _, _⟩ := os3.bytes
  obtain ⟨Ns3, hNs3⟩ : ∃ N, (xs ++ [44] ++ enc (zig (c1 - p1)) ++ enc (zig (c2 - p2)) ++ enc (zig (c3 - p3))).length = N := ⟨_, rfl⟩
  rw [hNs3] at hvs3
  subst hvs3
  have hNls3 : Ns3 ≤ 2097152 + 30 := by rw [← hNs3, List.length_append]; have := enc_le (zig (c3 - p3)); omega
  have HNs3 := Lib.hid hNs3
  clear hNs3
  have Os3 := Lib.hid os3; have KBs3 := Lib.hid (KBs2.out.trans bs3); have KKs3 := Lib.hid (KKs2.out.trans ks3); have AAs3 := Lib.hid as3
  clear os3 bs3 ks3 as3 hl3
  have q1s3 := fld4 (KKs3.out _ _ _ _ (by decide) HP.out); have q2s3 := fld4 (KKs3.out _ _ _ _ (by decide) HC.out)
  go_wp2_with fail
  have hl4 : (xs ++ [44] ++ enc (zig (c1 - p1)) ++ enc (zig (c2 - p2)) ++ enc (zig (c3 - p3))).length ≤ 2097152 + 29 := by simp; have := enc_le (zig (c1 - p1)); have := enc_le (zig (c2 - p2)); have := enc_le (zig (c3 - p3)); omega
  refine (enc33a K n kc ws3 B _ (xs ++ [44] ++ enc (zig (c1 - p1)) ++ enc (zig (c2 - p2)) ++ enc (zig (c3 - p3))) (c4 - p4) R o cc Os3.out (Nat.le_trans HBB.out (by have := KBs3.out.size; omega)) (HT0.out.below KBs3.out) AAs3.out (by first | omega | (simp; omega)) (by omega) e4.1 e4.2).mono ?_
  rintro e ws4 ⟨vs4, rfl, os4, bs4, ks4, as4⟩
  obtain ⟨pps4, ccs4, hvs4, _, _⟩ := os4.bytes
  obtain ⟨Ns4, hNs4⟩ : ∃ N, (xs ++ [44] ++ enc (zig (c1 - p1)) ++ enc (zig (c2 - p2)) ++ enc (zig (c3 - p3)) ++ enc (zig (c4 - p4))).length = N := ⟨_, rfl⟩
  rw [hNs4] at hvs4
  subst hvs4
  have hNls4 : Ns4 ≤ 2097152 + 37 := by rw [← hNs4, List.length_append]; have := enc_le (zig (c4 - p4)); omega
  have HNs4 := Lib.hid hNs4
  clear hNs4
  have Os4 := Lib.hid os4; have KBs4 := Lib.hid (KBs3.out.trans bs4); have KKs4 := Lib.hid (KKs3.out.trans ks4); have AAs4 := Lib.hid as4
  clear os4 bs4 ks4 as4 hl4
  have hP6 := fld6 ((keep_alloc ws4 (Obj.cells #[Value.int IntKind.u32 0] 45)) _ _ _ _ (by decide) (KKs4.out _ _ _ _ (by decide) HC.out))
  go_wp2_with fail
  have hRr := KKs4.out _ _ _ _ (by decide) HR.out
  have hrlt : w.heap.size + 1 + 1 < ws4.heap.size := (Array.getElem?_eq_some_iff.1 hRr).1
  have hRa := (keep_alloc ws4 (Obj.cells #[Value.int IntKind.u32 0] 45)) _ _ _ _ (by decide) hRr
  obtain ⟨r1, r2⟩ := ixc hRa
  have HRr := Lib.hid hRr
  clear hRr hRa
  go_region
  all_goals
    go_wp2
    (try simp only [Exit.inBlock, Exit.then])
    have hfin : ((ws4.setCell ⟨w.heap.size + 1 + 1, 0, none⟩ (Value.int IntKind.u32 0)).alloc (Obj.cells #[Value.int IntKind.u32 0] 45)).drew.heap[w.heap.size + 1 + 1]? = some (Obj.cells #[Value.int IntKind.u32 0] 45 (0, 0)) := by
      show ((ws4.setCell ⟨w.heap.size + 1 + 1, 0, none⟩ (Value.int IntKind.u32 0)).alloc (Obj.cells #[Value.int IntKind.u32 0] 45)).heap[w.heap.size + 1 + 1]? = _
      rw [heap_alloc_old _ _ (by simpa [World.setCell] using hrlt)]
      exact ix_set 0 HRr.out
    refine bodyPost_ret (v := .tuple #[.slice pps4 Ns4 ccs4, .agg #[.int .u32 0]]) ?_ rfl ⟨⟨_, rfl, ?_, ((AAs4.out.set HRr.out (by decide) _).alloc _).drew⟩, ((KBs4.out.setCell (by have := HBB.out; simp; omega) _).alloc (Nat.le_trans HBB.out (by have := KBs4.out.size; simp [World.setCell]; omega)) _).drew, (keep_set_new (K0.out.trans KKs4.out) (by omega) _).trans (keep_alloc _ _)⟩
    · rw [results_tmp_cell rfl]
      simp [asAddr, Result.andThen, run_loadVar_row _ (w.heap.size + 1 + 1) 45 45 #[.int .u32 0] (0, 0) _ hfin Tryd.underlying45 rfl (by kernel_rfl)]
    · have ho := own_set Os4.out HRr.out (by decide) (Value.int IntKind.u32 0)
      have := World.ownsRow.alloc ho (Obj.cells #[Value.int IntKind.u32 0] 45)
      exact this.drew
set_option maxRecDepth 100000 in
set_option maxHeartbeats 8000000 in
theorem apq_cfn (K n : Nat) (kc : Array Value) (w : World) (B : Nat) (v : Value) (xs : List Int) (lb : Int) (k0 : (lb != 0) = true) (k1 : (lb != 59) = true) (k2 : (lb != 34) = true) (p0 p1 p2 p3 p4 p5 : Int) (ph : Bool) (c0 c1 c2 c3 c4 c5 : Int) (R o cc : Nat) (hO : OwnB w B v xs) (hB : B ≤ w.heap.size) (hT : TabB w B R o cc) (hA : Away K kc n w v) (hn : n ≤ xs.length) (hxs : xs.length ≤ 2097152)
    (e1 : -1073741824 ≤ c1 - p1 ∧ c1 - p1 ≤ 1073741824) (e2 : -1073741824 ≤ c2 - p2 ∧ c2 - p2 ≤ 1073741824) (e3 : -1073741824 ≤ c3 - p3 ∧ c3 - p3 ≤ 1073741824) (e4 : -1073741824 ≤ c4 - p4 ∧ c4 - p4 ≤ 1073741824) (e5 : -1073741824 ≤ c5 - p5 ∧ c5 - p5 ≤ 1073741824) :
    Calls Tryd.prog 36 #[v, .int .u8 lb, .agg (stV p0 p1 p2 p3 p4 p5 ph), .agg (stV c0 c1 c2 c3 c4 c5 true), .bool false] w fun e w' => (∃ v', e = .returned (.tuple #[v', .agg #[.int .u32 (flp ((xs ++ [44] ++ enc (zig (c1 - p1)) ++ enc (zig (c2 - p2)) ++ enc (zig (c3 - p3)) ++ enc (zig (c4 - p4))).length : Nat))]]) ∧ OwnB w' B v' (xs ++ [44] ++ enc (zig (c1 - p1)) ++ enc (zig (c2 - p2)) ++ enc (zig (c3 - p3)) ++ enc (zig (c4 - p4)) ++ enc (zig (c5 - p5))) ∧ Away K kc n w' v') ∧ Below B w w' ∧ Keep5 w w' := by
  obtain ⟨i0, hin, hz0, hz1, hz2⟩ := info_parts info5
  obtain ⟨W0, hW0⟩ : ∃ W0, ((w.alloc (Obj.cells (stV p0 p1 p2 p3 p4 p5 ph) 41)).alloc (Obj.cells (stV c0 c1 c2 c3 c4 c5 true) 41)).alloc (Obj.cells #[Value.int IntKind.u32 0] 45) = W0 := ⟨_, rfl⟩
  have hb0 : Below w.heap.size w W0 := by rw [← hW0]; exact (((Below.refl _ _).alloc (Nat.le_refl _) _).alloc (by simp) _).alloc (by simp; omega) _
  have hsz : W0.heap.size = w.heap.size + 1 + 1 + 1 := by rw [← hW0]; simp
  have hP : W0.heap[w.heap.size]? = some (Obj.cells (stV p0 p1 p2 p3 p4 p5 ph) 41 (0, 0)) := by
    rw [← hW0, heap_alloc_old _ _ (by simp; omega), heap_alloc_old _ _ (by simp)]; exact heap_alloc_new _ _
  have hC : W0.heap[w.heap.size + 1]? = some (Obj.cells (stV c0 c1 c2 c3 c4 c5 true) 41 (0, 0)) := by
    rw [← hW0, heap_alloc_old _ _ (by simp)]
    have := heap_alloc_new (w.alloc (Obj.cells (stV p0 p1 p2 p3 p4 p5 ph) 41)) (Obj.cells (stV c0 c1 c2 c3 c4 c5 true) 41)
    rw [show (w.alloc (Obj.cells (stV p0 p1 p2 p3 p4 p5 ph) 41)).heap.size = w.heap.size + 1 by simp] at this
    exact this
  have hR : W0.heap[w.heap.size + 1 + 1]? = some (Obj.cells #[Value.int IntKind.u32 0] 45 (0, 0)) := by
    rw [← hW0]
    have := heap_alloc_new ((w.alloc (Obj.cells (stV p0 p1 p2 p3 p4 p5 ph) 41)).alloc (Obj.cells (stV c0 c1 c2 c3 c4 c5 true) 41)) (Obj.cells #[Value.int IntKind.u32 0] 45)
    rw [show ((w.alloc (Obj.cells (stV p0 p1 p2 p3 p4 p5 ph) 41)).alloc (Obj.cells (stV c0 c1 c2 c3 c4 c5 true) 41)).heap.size = w.heap.size + 1 + 1 by simp] at this
    exact this
  have HW0 := Lib.hid hW0; have HP := Lib.hid hP; have HC := Lib.hid hC; have HR := Lib.hid hR; have HSZ := Lib.hid hsz
  have HO := Lib.hid (hO.keep hb0); have HT0 := Lib.hid hT; have HBB := Lib.hid hB; have KB := Lib.hid (hb0.mono hB)
  have HBs := Lib.hid (show B ≤ W0.heap.size from Nat.le_trans hB hb0.size)
  have KK := Lib.hid (Keep5.refl W0)
  have HA := Lib.hid (hA.keep hb0); clear hA
  have K0 := Lib.hid (show Keep5 w W0 by rw [← HW0.out]; exact ((keep_alloc w _).trans (keep_alloc _ _)).trans (keep_alloc _ _))
  clear hP hC hR hb0 hO hT hB hW0 hsz
  have HOA := Lib.hid (World.ownsRow.alloc HO.out (.cells #[.int .u8 44] 5))
  have HCO := Lib.hid (show ∀ j u, [Value.int .u8 44][j]? = some u → (W0.alloc (.cells #[.int .u8 44] 5)).cell? ((⟨w.heap.size + 1 + 1 + 1, 0, none⟩ : Addr).add j) = some u by rw [← HSZ.out]; exact cell_one _ _ _)
  go_enter Tryd.func36, Tryd.ntmps36
  go_wp2_with (at_builtin; rw [HW0.out]; refine wpList_append_own _ rfl (.tmp 23) (.tmp 24) 22 rfl B 5 i0 (.int .u8 0) 1 1 Tryd.underlying22 hin hz0 hz1 hz2 rfl (by decide) v xs.length (cellsB xs) rfl HOA.out ⟨w.heap.size + 1 + 1 + 1, 0, none⟩ 1 1 [.int .u8 44] rfl rfl HCO.out (by intro u hu; simp at hu; subst hu; rfl) (by unfold maxLen; omega) (by omega) (by have := HBs.out; simp; omega) ?_; intro v1 w1 hown1 hg1 hnil1; have O1 := Lib.hid (own_app hown1); have KB1 := Lib.hid (KB.out.trans ((below_alloc1 W0 B HBs.out _).trans (below_grown hg1 B (by have := HBs.out; simp; omega) HO.out.lt))); have KK1 := Lib.hid (keep_app HO.out hg1); have AA1 := Lib.hid (away_app HA.out hn hg1 O1.out); have q1 := fld1 (KK1.out _ _ _ _ (by decide) HP.out); have q2 := fld1 (KK1.out _ _ _ _ (by decide) HC.out); clear hown1 hg1 hnil1)
  have hl1 : (xs ++ [44]).length ≤ 2097152 + 8 := by simp; omega
  refine (enc33a K n kc w1 B _ (xs ++ [44]) (c1 - p1) R o cc O1.out (Nat.le_trans HBB.out (by have := KB1.out.size; omega)) (HT0.out.below KB1.out) AA1.out (by first | omega | (simp; omega)) (by omega) e1.1 e1.2).mono ?_
  rintro e ws1 ⟨vs1, rfl, os1, bs1, ks1, as1⟩
  obtain ⟨pps1, ccs1, hvs1, _, _⟩ := os1.bytes
  obtain ⟨Ns1, hNs1⟩ : ∃ N, (xs ++ [44] ++ enc (zig (c1 - p1))).length = N := ⟨_, rfl⟩
  rw [hNs1] at hvs1
  subst hvs1
  have hNls1 : Ns1 ≤ 2097152 + 16 := by rw [← hNs1, List.length_append]; have := enc_le (zig (c1 - p1)); omega
  have HNs1 := Lib.hid hNs1
  clear hNs1
  have Os1 := Lib.hid os1; have KBs1 := Lib.hid (KB1.out.trans bs1); have KKs1 := Lib.hid (KK1.out.trans ks1); have AAs1 := Lib.hid as1
  clear os1 bs1 ks1 as1 hl1
  have q1s1 := fld2 (KKs1.out _ _ _ _ (by decide) HP.out); have q2s1 := fld2 (KKs1.out _ _ _ _ (by decide) HC.out)
  go_wp2_with fail
  have hl2 : (xs ++ [44] ++ enc (zig (c1 - p1))).length ≤ 2097152 + 15 := by simp; have := enc_le (zig (c1 - p1)); omega
  refine (enc33a K n kc ws1 B _ (xs ++ [44] ++ enc (zig (c1 - p1))) (c2 - p2) R o cc Os1.out (Nat.le_trans HBB.out (by have := KBs1.out.size; omega)) (HT0.out.below KBs1.out) AAs1.out (by first | omega | (simp; omega)) (by omega) e2.1 e2.2).mono ?_
  rintro e ws2 ⟨vs2, rfl, os2, bs2, ks2, as2⟩
  obtain ⟨pps2, ccs2, hvs2, _, _⟩ := os2.bytes
  obtain ⟨Ns2, hNs2⟩ : ∃ N, (xs ++ [44] ++ enc (zig (c1 - p1)) ++ enc (zig (c2 - p2))).length = N := ⟨_, rfl⟩
  rw [hNs2] at hvs2
  subst hvs2
  have hNls2 : Ns2 ≤ 2097152 + 23 := by rw [← hNs2, List.length_append]; have := enc_le (zig (c2 - p2)); omega
  have HNs2 := Lib.hid hNs2
  clear hNs2
  have Os2 := Lib.hid os2; have KBs2 := Lib.hid (KBs1.out.trans bs2); have KKs2 := Lib.hid (KKs1.out.trans ks2); have AAs2 := Lib.hid as2
  clear os2 bs2 ks2 as2 hl2
  have q1s2 := fld3 (KKs2.out _ _ _ _ (by decide) HP.out); have q2s2 := fld3 (KKs2.out _ _ _ _ (by decide) HC.out)
  go_wp2_with fail
  have hl3 : (xs ++ [44] ++ enc (zig (c1 - p1)) ++ enc (zig (c2 - p2))).length ≤ 2097152 + 22 := by simp; have := enc_le (zig (c1 - p1)); have := enc_le (zig (c2 - p2)); omega
  refine (enc33a K n kc ws2 B _ (xs ++ [44] ++ enc (zig (c1 - p1)) ++ enc (zig (c2 - p2))) (c3 - p3) R o cc Os2.out (Nat.le_trans HBB.out (by have := KBs2.out.size; omega)) (HT0.out.below KBs2.out) AAs2.out (by first | omega | (simp; omega)) (by omega) e3.1 e3.2).mono ?_
  rintro e ws3 ⟨vs3, rfl, os3, bs3, ks3, as3⟩
  obtain ⟨pps3, ccs3, hvs3, _, _⟩ := os3.bytes
  obtain ⟨Ns3, hNs3⟩ : ∃ N, (xs ++ [44] ++ enc (zig (c1 - p1)) ++ enc (zig (c2 - p2)) ++ enc (zig (c3 - p3))).length = N := ⟨_, rfl⟩
  rw [hNs3] at hvs3
  subst hvs3
  have hNls3 : Ns3 ≤ 2097152 + 30 := by rw [← hNs3, List.length_append]; have := enc_le (zig (c3 - p3)); omega
  have HNs3 := Lib.hid hNs3
  clear hNs3
  have Os3 := Lib.hid os3; have KBs3 := Lib.hid (KBs2.out.trans bs3); have KKs3 := Lib.hid (KKs2.out.trans ks3); have AAs3 := Lib.hid as3
  clear os3 bs3 ks3 as3 hl3
  have q1s3 := fld4 (KKs3.out _ _ _ _ (by decide) HP.out); have q2s3 := fld4 (KKs3.out _ _ _ _ (by decide) HC.out)
  go_wp2_with fail
  have hl4 : (xs ++ [44] ++ enc (zig (c1 - p1)) ++ enc (zig (c2 - p2)) ++ enc (zig (c3 - p3))).length ≤ 2097152 + 29 := by simp; have := enc_le (zig (c1 - p1)); have := enc_le (zig (c2 - p2)); have := enc_le (zig (c3 - p3)); omega
  refine (enc33a K n kc ws3 B _ (xs ++ [44] ++ enc (zig (c1 - p1)) ++ enc (zig (c2 - p2)) ++ enc (zig (c3 - p3))) (c4 - p4) R o cc Os3.out (Nat.le_trans HBB.out (by have := KBs3.out.size; omega)) (HT0.out.below KBs3.out) AAs3.out (by first | omega | (simp; omega)) (by omega) e4.1 e4.2).mono ?_
  rintro e ws4 ⟨vs4, rfl, os4, bs4, ks4, as4⟩
  obtain ⟨pps4, ccs4, hvs4, _, _⟩ := os4.bytes
  obtain ⟨Ns4, hNs4⟩ : ∃ N, (xs ++ [44] ++ enc (zig (c1 - p1)) ++ enc (zig (c2 - p2)) ++ enc (zig (c3 - p3)) ++ enc (zig (c4 - p4))).length = N := ⟨_, rfl⟩
  rw [hNs4] at hvs4
  subst hvs4
  have hNls4 : Ns4 ≤ 2097152 + 37 := by rw [← hNs4, List.length_append]; have := enc_le (zig (c4 - p4)); omega
  have HNs4 := Lib.hid hNs4
  clear hNs4
  have Os4 := Lib.hid os4; have KBs4 := Lib.hid (KBs3.out.trans bs4); have KKs4 := Lib.hid (KKs3.out.trans ks4); have AAs4 := Lib.hid as4
  clear os4 bs4 ks4 as4 hl4
  have hP6 := fld6 ((keep_alloc ws4 (Obj.cells #[Value.int IntKind.u32 0] 45)) _ _ _ _ (by decide) (KKs4.out _ _ _ _ (by decide) HC.out))
  go_wp2_with fail
  refine (mk40 (Ns4 : Int) _).mono ?_
  rintro e wm ⟨rfl, bm, km⟩
  obtain ⟨F, hF⟩ : ∃ F, flp (Ns4 : Int) = F := ⟨_, rfl⟩
  rw [hF]
  rw [← HNs4.out] at hF
  have HF := Lib.hid hF
  have KKm := Lib.hid ((KKs4.out.trans (keep_alloc ws4 (Obj.cells #[Value.int IntKind.u32 0] 45))).trans km)
  have hNb := km _ _ _ _ (by decide) (heap_alloc_new ws4 (Obj.cells #[Value.int IntKind.u32 0] 45))
  have hnlt : w.heap.size + 1 + 1 < ws4.heap.size := (Array.getElem?_eq_some_iff.1 (KKs4.out _ _ _ _ (by decide) HR.out)).1
  obtain ⟨n1, n2⟩ := ixc hNb
  obtain ⟨WM, hWM⟩ : ∃ WM, wm.setCell ⟨ws4.heap.size, 0, none⟩ (.int .u32 F) = WM := ⟨_, rfl⟩
  have hPm : WM.heap[w.heap.size]? = some (Obj.cells (stV p0 p1 p2 p3 p4 p5 ph) 41 (0, 0)) := by rw [← hWM, heap_set_other _ (by omega)]; exact KKm.out _ _ _ _ (by decide) HP.out
  have hCm : WM.heap[w.heap.size + 1]? = some (Obj.cells (stV c0 c1 c2 c3 c4 c5 true) 41 (0, 0)) := by rw [← hWM, heap_set_other _ (by omega)]; exact KKm.out _ _ _ _ (by decide) HC.out
  have hRm : WM.heap[w.heap.size + 1 + 1]? = some (Obj.cells #[Value.int IntKind.u32 0] 45 (0, 0)) := by rw [← hWM, heap_set_other _ (by omega)]; exact KKm.out _ _ _ _ (by decide) HR.out
  have hNm : WM.heap[ws4.heap.size]? = some (Obj.cells #[Value.int IntKind.u32 F] 45 (0, 0)) := by rw [← hWM]; exact ix_set F hNb
  have OA := World.ownsRow.alloc Os4.out (Obj.cells #[Value.int IntKind.u32 0] 45)
  have OM := own_set (OwnB.keep OA bm) hNb (by decide) (.int .u32 F)
  rw [hWM] at OM
  have bA : Below B ws4 (ws4.alloc (Obj.cells #[Value.int IntKind.u32 0] 45)) := below_alloc1 _ _ (Nat.le_trans HBB.out (by have := KBs4.out.size; omega)) _
  have bM : Below B w WM := by rw [← hWM]; exact ((KBs4.out.trans bA).trans (bm.mono (Nat.le_trans HBB.out (by have := KBs4.out.size; simp; omega)))).setCell (Nat.le_trans HBB.out KBs4.out.size) _
  have HKM := Lib.hid (show Keep5 w WM by rw [← hWM]; exact keep_set_new (K0.out.trans KKm.out) KBs4.out.size _)
  have HAM := Lib.hid (show Away K kc n WM _ by rw [← hWM]; exact ((AAs4.out.alloc (Obj.cells #[Value.int IntKind.u32 0] 45)).keep bm).set hNb (by decide) _)
  have u1 := fld5 hPm; have u2 := fld5 hCm
  rw [← hWM] at u1 u2
  have HWM := Lib.hid hWM; have HRM := Lib.hid hRm; have HNM := Lib.hid hNm; have HOM := Lib.hid OM; have HBM := Lib.hid bM
  clear hPm hCm hRm hNm OA OM bA bM hWM bm km hNb hF hP6
  dsimp only
  go_wp2_with fail
  rw [HWM.out]
  refine (enc33a K n kc WM B _ (xs ++ [44] ++ enc (zig (c1 - p1)) ++ enc (zig (c2 - p2)) ++ enc (zig (c3 - p3)) ++ enc (zig (c4 - p4))) (c5 - p5) R o cc HOM.out (Nat.le_trans HBB.out HBM.out.size) (HT0.out.below HBM.out) HAM.out (by first | omega | (simp; omega)) (by rw [HNs4.out]; omega) e5.1 e5.2).mono ?_
  rintro e w5 ⟨v5, rfl, o5, b5, k5, a5⟩
  have O5 := Lib.hid o5; have KB5 := Lib.hid (HBM.out.trans b5); have K5 := Lib.hid k5; have A5 := Lib.hid a5
  have hR5 := k5 _ _ _ _ (by decide) HRM.out
  obtain ⟨r1, r2⟩ := ixc hR5
  obtain ⟨m1, m2⟩ := ixc (k5 _ _ _ _ (by decide) HNM.out)
  have HR5 := Lib.hid hR5
  clear o5 b5 k5 a5 hR5 u1 u2 n1 n2
  dsimp only
  go_wp2_with fail
  go_region
  all_goals
    go_wp2
    (try simp only [Exit.inBlock, Exit.then])
    have hfin : (w5.setCell ⟨w.heap.size + 1 + 1, 0, none⟩ (Value.int IntKind.u32 F)).drew.heap[w.heap.size + 1 + 1]? = some (Obj.cells #[Value.int IntKind.u32 F] 45 (0, 0)) := ix_set F HR5.out
    refine bodyPost_ret (v := .tuple #[v5, .agg #[.int .u32 F]]) ?_ rfl ⟨⟨_, by rw [← HF.out], ?_, (A5.out.set HR5.out (by decide) _).drew⟩, (KB5.out.setCell (by have := HBB.out; simp; omega) _).drew, keep_set_new (HKM.out.trans K5.out) (by omega) _⟩
    · rw [results_tmp_cell rfl]
      simp [asAddr, Result.andThen, run_loadVar_row _ (w.heap.size + 1 + 1) 45 45 #[.int .u32 F] (0, 0) _ hfin Tryd.underlying45 rfl (by kernel_rfl)]
    · have ho := own_set O5.out HR5.out (by decide) (Value.int IntKind.u32 F)
      exact World.ownsRow.drew ho
end Go.Proofs.YtbigamkmkmfdfaaDoor
