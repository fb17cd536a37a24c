/-
  appendMappingToBuffer and the export; a row that lies elsewhere stays.
-/
import Derived.Test.YtbigamkmkmfdfaaDoorQ5
namespace Go.Proofs.YtbigamkmkmfdfaaDoor
open Go.ChangeShapes Go.WideShapes Go.ChangeAt Go.RowKit
set_option linter.unusedVariables false
theorem apq36 (K n : Nat) (kc : Array Value) (w : World) (B : Nat) (v : Value) (xs : List Int) (lb : Int) (om hn : Bool) (p0 p1 p2 p3 p4 p5 : Int) (ph : Bool) (c0 c1 c2 c3 c4 c5 : Int) (R o cc : Nat) (hO : OwnB w B v xs) (hB : B ≤ w.heap.size) (hT : TabB w B R o cc) (hA : Away K kc n w v) (hnn : n ≤ xs.length) (hxs : xs.length ≤ 2097152) (hok : Ok5 p1 p2 p3 p4 p5 c1 c2 c3 c4 c5) :
    Calls Tryd.prog 36 #[v, .int .u8 lb, .agg (stV p0 p1 p2 p3 p4 p5 ph), .agg (stV c0 c1 c2 c3 c4 c5 hn), .bool om] w fun e w' => (∃ v', e = .returned (.tuple #[v', .agg #[.int .u32 (nameI xs lb om hn (c1 - p1) (c2 - p2) (c3 - p3) (c4 - p4))]]) ∧ OwnB w' B v' (outM xs lb om hn (c1 - p1) (c2 - p2) (c3 - p3) (c4 - p4) (c5 - p5)) ∧ Away K kc n w' v') ∧ Below B w w' ∧ Keep5 w w' := by
  obtain ⟨e1, e2, e3, e4, e5⟩ := hok
  unfold nameI outM outA
  by_cases h0 : lb = 0
  · subst h0
    rw [cma0]
    cases om <;> cases hn
    · simpa [List.append_assoc] using apq_zfp K n kc w B v xs p0 p1 p2 p3 p4 p5 ph c0 c1 c2 c3 c4 c5 R o cc hO hB hT hA hnn hxs e1 e2 e3 e4 e5
    · simpa [List.append_assoc] using apq_zfn K n kc w B v xs p0 p1 p2 p3 p4 p5 ph c0 c1 c2 c3 c4 c5 R o cc hO hB hT hA hnn hxs e1 e2 e3 e4 e5
    · simpa [List.append_assoc] using apq_zop K n kc w B v xs p0 p1 p2 p3 p4 p5 ph c0 c1 c2 c3 c4 c5 R o cc hO hB hT hA hnn hxs e1 e2 e3 e4 e5
    · simpa [List.append_assoc] using apq_zon K n kc w B v xs p0 p1 p2 p3 p4 p5 ph c0 c1 c2 c3 c4 c5 R o cc hO hB hT hA hnn hxs e1 e2 e3 e4 e5
  by_cases h1 : lb = 59
  · subst h1
    rw [cma59]
    cases om <;> cases hn
    · simpa [List.append_assoc] using apq_sfp K n kc w B v xs p0 p1 p2 p3 p4 p5 ph c0 c1 c2 c3 c4 c5 R o cc hO hB hT hA hnn hxs e1 e2 e3 e4 e5
    · simpa [List.append_assoc] using apq_sfn K n kc w B v xs p0 p1 p2 p3 p4 p5 ph c0 c1 c2 c3 c4 c5 R o cc hO hB hT hA hnn hxs e1 e2 e3 e4 e5
    · simpa [List.append_assoc] using apq_sop K n kc w B v xs p0 p1 p2 p3 p4 p5 ph c0 c1 c2 c3 c4 c5 R o cc hO hB hT hA hnn hxs e1 e2 e3 e4 e5
    · simpa [List.append_assoc] using apq_son K n kc w B v xs p0 p1 p2 p3 p4 p5 ph c0 c1 c2 c3 c4 c5 R o cc hO hB hT hA hnn hxs e1 e2 e3 e4 e5
  by_cases h2 : lb = 34
  · subst h2
    rw [cma34]
    cases om <;> cases hn
    · simpa [List.append_assoc] using apq_qfp K n kc w B v xs p0 p1 p2 p3 p4 p5 ph c0 c1 c2 c3 c4 c5 R o cc hO hB hT hA hnn hxs e1 e2 e3 e4 e5
    · simpa [List.append_assoc] using apq_qfn K n kc w B v xs p0 p1 p2 p3 p4 p5 ph c0 c1 c2 c3 c4 c5 R o cc hO hB hT hA hnn hxs e1 e2 e3 e4 e5
    · simpa [List.append_assoc] using apq_qop K n kc w B v xs p0 p1 p2 p3 p4 p5 ph c0 c1 c2 c3 c4 c5 R o cc hO hB hT hA hnn hxs e1 e2 e3 e4 e5
    · simpa [List.append_assoc] using apq_qon K n kc w B v xs p0 p1 p2 p3 p4 p5 ph c0 c1 c2 c3 c4 c5 R o cc hO hB hT hA hnn hxs e1 e2 e3 e4 e5
  have k0 : (lb != 0) = true := by simp [h0]
  have k1 : (lb != 59) = true := by simp [h1]
  have k2 : (lb != 34) = true := by simp [h2]
  rw [cmax lb h0 h1 h2]
  cases om <;> cases hn
  · simpa [List.append_assoc] using apq_cfp K n kc w B v xs lb k0 k1 k2 p0 p1 p2 p3 p4 p5 ph c0 c1 c2 c3 c4 c5 R o cc hO hB hT hA hnn hxs e1 e2 e3 e4 e5
  · simpa [List.append_assoc] using apq_cfn K n kc w B v xs lb k0 k1 k2 p0 p1 p2 p3 p4 p5 ph c0 c1 c2 c3 c4 c5 R o cc hO hB hT hA hnn hxs e1 e2 e3 e4 e5
  · simpa [List.append_assoc] using apq_cop K n kc w B v xs lb k0 k1 k2 p0 p1 p2 p3 p4 p5 ph c0 c1 c2 c3 c4 c5 R o cc hO hB hT hA hnn hxs e1 e2 e3 e4 e5
  · simpa [List.append_assoc] using apq_con K n kc w B v xs lb k0 k1 k2 p0 p1 p2 p3 p4 p5 ph c0 c1 c2 c3 c4 c5 R o cc hO hB hT hA hnn hxs e1 e2 e3 e4 e5
set_option maxRecDepth 100000 in
set_option maxHeartbeats 2000000 in
theorem zzq19 (K n : Nat) (kc : Array Value) (w : World) (B : Nat) (v : Value) (xs : List Int) (lb : Int) (om hn : Bool) (p0 p1 p2 p3 p4 p5 : Int) (ph : Bool) (c0 c1 c2 c3 c4 c5 : Int) (R o cc : Nat) (hO : OwnB w B v xs) (hB : B ≤ w.heap.size) (hT : TabB w B R o cc) (hA : Away K kc n w v) (hnn : n ≤ xs.length) (hxs : xs.length ≤ 2097152) (hok : Ok5 p1 p2 p3 p4 p5 c1 c2 c3 c4 c5) (I : Int) (XS : List Int)
    (hI : Hid (nameI xs lb om hn (c1 - p1) (c2 - p2) (c3 - p3) (c4 - p4) = I)) (hX : Hid (outM xs lb om hn (c1 - p1) (c2 - p2) (c3 - p3) (c4 - p4) (c5 - p5) = XS)) :
    Calls Tryd.prog 19 #[v, .int .u8 lb, .agg (stV p0 p1 p2 p3 p4 p5 ph), .agg (stV c0 c1 c2 c3 c4 c5 hn), .bool om] w fun e w' => (∃ v', e = .returned (.tuple #[v', .agg #[.int .u32 I]]) ∧ OwnB w' B v' XS ∧ Away K kc n w' v') ∧ Below B w w' ∧ Keep5 w w' := by
  obtain ⟨W0, hW0⟩ : ∃ W0, ((w.alloc (Obj.cells (stV p0 p1 p2 p3 p4 p5 ph) 41)).alloc (Obj.cells (stV c0 c1 c2 c3 c4 c5 hn) 41)).alloc (Obj.cells #[Value.int IntKind.u32 0] 45) = W0 := ⟨_, rfl⟩
  have hb0 : Below w.heap.size w W0 := by rw [← hW0]; exact (((Below.refl _ _).alloc (Nat.le_refl _) _).alloc (by simp) _).alloc (by simp; omega) _
  have hR : W0.heap[w.heap.size + 1 + 1]? = some (Obj.cells #[Value.int IntKind.u32 0] 45 (0, 0)) := by
    rw [← hW0]
    have := heap_alloc_new ((w.alloc (Obj.cells (stV p0 p1 p2 p3 p4 p5 ph) 41)).alloc (Obj.cells (stV c0 c1 c2 c3 c4 c5 hn) 41)) (Obj.cells #[Value.int IntKind.u32 0] 45)
    rw [show ((w.alloc (Obj.cells (stV p0 p1 p2 p3 p4 p5 ph) 41)).alloc (Obj.cells (stV c0 c1 c2 c3 c4 c5 hn) 41)).heap.size = w.heap.size + 1 + 1 by simp] at this
    exact this
  have HA := Lib.hid (apq36 K n kc W0 B v xs lb om hn p0 p1 p2 p3 p4 p5 ph c0 c1 c2 c3 c4 c5 R o cc (hO.keep hb0) (Nat.le_trans hB hb0.size) (hT.below (hb0.mono hB)) (hA.keep hb0) hnn hxs hok)
  rw [hI.out, hX.out] at HA
  have K0 := Lib.hid (show Keep5 w W0 by rw [← hW0]; exact ((keep_alloc w _).trans (keep_alloc _ _)).trans (keep_alloc _ _))
  have HW0 := Lib.hid hW0; have HR := Lib.hid hR; have KB := Lib.hid (hb0.mono hB); have HBB := Lib.hid hB
  clear hW0 hR hb0 hO hT hB hok hA
  go_enter Tryd.func19, Tryd.ntmps19
  go_wp2_with fail
  rw [HW0.out]
  refine (HA.out).mono ?_
  rintro e w1 ⟨⟨v', rfl, ho, ha⟩, hb, hk⟩
  have hR1 := hk _ _ _ _ (by decide) HR.out
  obtain ⟨r1, r2⟩ := ixc hR1
  have HO1 := Lib.hid ho; have KB1 := Lib.hid (KB.out.trans hb); have HR1 := Lib.hid hR1; have K1 := Lib.hid (K0.out.trans hk); have A1 := Lib.hid ha
  clear ho ha hb hk hR1 HA
  dsimp only
  go_wp2_with fail
  (try simp only [Exit.inBlock, Exit.then])
  have hfin : (w1.setCell ⟨w.heap.size + 1 + 1, 0, none⟩ (Value.int IntKind.u32 I)).heap[w.heap.size + 1 + 1]? = some (Obj.cells #[Value.int IntKind.u32 I] 45 (0, 0)) := ix_set I HR1.out
  refine bodyPost_ret (v := .tuple #[v', .agg #[.int .u32 I]]) ?_ rfl ⟨⟨_, rfl, own_set HO1.out HR1.out (by decide) _, A1.out.set HR1.out (by decide) _⟩, KB1.out.setCell (by have := HBB.out; simp; omega) _, keep_set_new K1.out (by omega) _⟩
  rw [results_tmp_cell rfl]
  simp [asAddr, Result.andThen, run_loadVar_row _ (w.heap.size + 1 + 1) 45 45 #[.int .u32 I] (0, 0) _ hfin Tryd.underlying45 rfl (by kernel_rfl)]
end Go.Proofs.YtbigamkmkmfdfaaDoor
