/-
  appendMappingToBuffer, all ways; zzStateOKB3; the export.
-/
import Derived.Test.YtbigamkmkmfdfaaDoorM5
namespace Go.Proofs.YtbigamkmkmfdfaaDoor
open Go.ChangeShapes Go.WideShapes Go.ChangeAt Go.RowKit
set_option linter.unusedVariables false
def cma (lb : Int) : List Int := if lb = 0 ∨ lb = 59 ∨ lb = 34 then [] else [44]
def outA (xs : List Int) (lb : Int) (om : Bool) (d1 d2 d3 d4 : Int) : List Int := xs ++ cma lb ++ enc (zig d1) ++ (if om then [] else enc (zig d2) ++ enc (zig d3) ++ enc (zig d4))
def outM (xs : List Int) (lb : Int) (om hn : Bool) (d1 d2 d3 d4 d5 : Int) : List Int := outA xs lb om d1 d2 d3 d4 ++ (if hn then enc (zig d5) else [])
def nameI (xs : List Int) (lb : Int) (om hn : Bool) (d1 d2 d3 d4 : Int) : Int := if hn then flp ((outA xs lb om d1 d2 d3 d4).length : Nat) else 0
theorem cma0 : cma 0 = [] := rfl
theorem cma59 : cma 59 = [] := rfl
theorem cma34 : cma 34 = [] := rfl
theorem cmax (lb : Int) (h0 : lb ≠ 0) (h1 : lb ≠ 59) (h2 : lb ≠ 34) : cma lb = [44] := by unfold cma; rw [if_neg (by omega)]
def Ok5 (p1 p2 p3 p4 p5 c1 c2 c3 c4 c5 : Int) : Prop := (-1073741824 ≤ c1 - p1 ∧ c1 - p1 ≤ 1073741824) ∧ (-1073741824 ≤ c2 - p2 ∧ c2 - p2 ≤ 1073741824) ∧ (-1073741824 ≤ c3 - p3 ∧ c3 - p3 ≤ 1073741824) ∧ (-1073741824 ≤ c4 - p4 ∧ c4 - p4 ≤ 1073741824) ∧ (-1073741824 ≤ c5 - p5 ∧ c5 - p5 ≤ 1073741824)
theorem app36 (w : World) (B : Nat) (v : Value) (xs : List Int) (lb : Int) (om hn : Bool) (p0 p1 p2 p3 p4 p5 : Int) (ph : Bool) (c0 c1 c2 c3 c4 c5 : Int) (R o cc : Nat) (hO : OwnB w B v xs) (hB : B ≤ w.heap.size) (hT : TabB w B R o cc) (hxs : xs.length ≤ 2097152) (hok : Ok5 p1 p2 p3 p4 p5 c1 c2 c3 c4 c5) :
    Calls Tryd.prog 36 #[v, .int .u8 lb, .agg (stV p0 p1 p2 p3 p4 p5 ph), .agg (stV c0 c1 c2 c3 c4 c5 hn), .bool om] w fun e w' => (∃ v', e = .returned (.tuple #[v', .agg #[.int .u32 (nameI xs lb om hn (c1 - p1) (c2 - p2) (c3 - p3) (c4 - p4))]]) ∧ OwnB w' B v' (outM xs lb om hn (c1 - p1) (c2 - p2) (c3 - p3) (c4 - p4) (c5 - p5))) ∧ Below B w w' ∧ Keep5 w w' := by
  obtain ⟨e1, e2, e3, e4, e5⟩ := hok
  unfold nameI outM outA
  by_cases h0 : lb = 0
  · subst h0
    rw [cma0]
    cases om <;> cases hn
    · simpa [List.append_assoc] using app_zfp w B v xs p0 p1 p2 p3 p4 p5 ph c0 c1 c2 c3 c4 c5 R o cc hO hB hT hxs e1 e2 e3 e4 e5
    · simpa [List.append_assoc] using app_zfn w B v xs p0 p1 p2 p3 p4 p5 ph c0 c1 c2 c3 c4 c5 R o cc hO hB hT hxs e1 e2 e3 e4 e5
    · simpa [List.append_assoc] using app_zop w B v xs p0 p1 p2 p3 p4 p5 ph c0 c1 c2 c3 c4 c5 R o cc hO hB hT hxs e1 e2 e3 e4 e5
    · simpa [List.append_assoc] using app_zon w B v xs p0 p1 p2 p3 p4 p5 ph c0 c1 c2 c3 c4 c5 R o cc hO hB hT hxs e1 e2 e3 e4 e5
  by_cases h1 : lb = 59
  · subst h1
    rw [cma59]
    cases om <;> cases hn
    · simpa [List.append_assoc] using app_sfp w B v xs p0 p1 p2 p3 p4 p5 ph c0 c1 c2 c3 c4 c5 R o cc hO hB hT hxs e1 e2 e3 e4 e5
    · simpa [List.append_assoc] using app_sfn w B v xs p0 p1 p2 p3 p4 p5 ph c0 c1 c2 c3 c4 c5 R o cc hO hB hT hxs e1 e2 e3 e4 e5
    · simpa [List.append_assoc] using app_sop w B v xs p0 p1 p2 p3 p4 p5 ph c0 c1 c2 c3 c4 c5 R o cc hO hB hT hxs e1 e2 e3 e4 e5
    · simpa [List.append_assoc] using app_son w B v xs p0 p1 p2 p3 p4 p5 ph c0 c1 c2 c3 c4 c5 R o cc hO hB hT hxs e1 e2 e3 e4 e5
  by_cases h2 : lb = 34
  · subst h2
    rw [cma34]
    cases om <;> cases hn
    · simpa [List.append_assoc] using app_qfp w B v xs p0 p1 p2 p3 p4 p5 ph c0 c1 c2 c3 c4 c5 R o cc hO hB hT hxs e1 e2 e3 e4 e5
    · simpa [List.append_assoc] using app_qfn w B v xs p0 p1 p2 p3 p4 p5 ph c0 c1 c2 c3 c4 c5 R o cc hO hB hT hxs e1 e2 e3 e4 e5
    · simpa [List.append_assoc] using app_qop w B v xs p0 p1 p2 p3 p4 p5 ph c0 c1 c2 c3 c4 c5 R o cc hO hB hT hxs e1 e2 e3 e4 e5
    · simpa [List.append_assoc] using app_qon w B v xs p0 p1 p2 p3 p4 p5 ph c0 c1 c2 c3 c4 c5 R o cc hO hB hT hxs e1 e2 e3 e4 e5
  have k0 : (lb != 0) = true := by simp [h0]
  have k1 : (lb != 59) = true := by simp [h1]
  have k2 : (lb != 34) = true := by simp [h2]
  rw [cmax lb h0 h1 h2]
  cases om <;> cases hn
  · simpa [List.append_assoc] using app_cfp w B v xs lb k0 k1 k2 p0 p1 p2 p3 p4 p5 ph c0 c1 c2 c3 c4 c5 R o cc hO hB hT hxs e1 e2 e3 e4 e5
  · simpa [List.append_assoc] using app_cfn w B v xs lb k0 k1 k2 p0 p1 p2 p3 p4 p5 ph c0 c1 c2 c3 c4 c5 R o cc hO hB hT hxs e1 e2 e3 e4 e5
  · simpa [List.append_assoc] using app_cop w B v xs lb k0 k1 k2 p0 p1 p2 p3 p4 p5 ph c0 c1 c2 c3 c4 c5 R o cc hO hB hT hxs e1 e2 e3 e4 e5
  · simpa [List.append_assoc] using app_con w B v xs lb k0 k1 k2 p0 p1 p2 p3 p4 p5 ph c0 c1 c2 c3 c4 c5 R o cc hO hB hT hxs e1 e2 e3 e4 e5
set_option maxRecDepth 100000 in
set_option maxHeartbeats 2000000 in
theorem zz19 (w : World) (B : Nat) (v : Value) (xs : List Int) (lb : Int) (om hn : Bool) (p0 p1 p2 p3 p4 p5 : Int) (ph : Bool) (c0 c1 c2 c3 c4 c5 : Int) (R o cc : Nat) (hO : OwnB w B v xs) (hB : B ≤ w.heap.size) (hT : TabB w B R o cc) (hxs : xs.length ≤ 2097152) (hok : Ok5 p1 p2 p3 p4 p5 c1 c2 c3 c4 c5) (I : Int) (XS : List Int)
    (hI : Hid (nameI xs lb om hn (c1 - p1) (c2 - p2) (c3 - p3) (c4 - p4) = I)) (hX : Hid (outM xs lb om hn (c1 - p1) (c2 - p2) (c3 - p3) (c4 - p4) (c5 - p5) = XS)) :
    Calls Tryd.prog 19 #[v, .int .u8 lb, .agg (stV p0 p1 p2 p3 p4 p5 ph), .agg (stV c0 c1 c2 c3 c4 c5 hn), .bool om] w fun e w' => (∃ v', e = .returned (.tuple #[v', .agg #[.int .u32 I]]) ∧ OwnB w' B v' XS) ∧ Below B w w' ∧ Keep5 w w' := by
  obtain ⟨W0, hW0⟩ : ∃ W0, ((w.alloc (Obj.cells (stV p0 p1 p2 p3 p4 p5 ph) 41)).alloc (Obj.cells (stV c0 c1 c2 c3 c4 c5 hn) 41)).alloc (Obj.cells #[Value.int IntKind.u32 0] 45) = W0 := ⟨_, rfl⟩
  have hb0 : Below w.heap.size w W0 := by rw [← hW0]; exact (((Below.refl _ _).alloc (Nat.le_refl _) _).alloc (by simp) _).alloc (by simp; omega) _
  have hR : W0.heap[w.heap.size + 1 + 1]? = some (Obj.cells #[Value.int IntKind.u32 0] 45 (0, 0)) := by
    rw [← hW0]
    have := heap_alloc_new ((w.alloc (Obj.cells (stV p0 p1 p2 p3 p4 p5 ph) 41)).alloc (Obj.cells (stV c0 c1 c2 c3 c4 c5 hn) 41)) (Obj.cells #[Value.int IntKind.u32 0] 45)
    rw [show ((w.alloc (Obj.cells (stV p0 p1 p2 p3 p4 p5 ph) 41)).alloc (Obj.cells (stV c0 c1 c2 c3 c4 c5 hn) 41)).heap.size = w.heap.size + 1 + 1 by simp] at this
    exact this
  have HA := Lib.hid (app36 W0 B v xs lb om hn p0 p1 p2 p3 p4 p5 ph c0 c1 c2 c3 c4 c5 R o cc (hO.keep hb0) (Nat.le_trans hB hb0.size) (hT.below (hb0.mono hB)) hxs hok)
  rw [hI.out, hX.out] at HA
  have K0 := Lib.hid (show Keep5 w W0 by rw [← hW0]; exact ((keep_alloc w _).trans (keep_alloc _ _)).trans (keep_alloc _ _))
  have HW0 := Lib.hid hW0; have HR := Lib.hid hR; have KB := Lib.hid (hb0.mono hB); have HBB := Lib.hid hB
  clear hW0 hR hb0 hO hT hB hok
  go_enter Tryd.func19, Tryd.ntmps19
  go_wp2_with fail
  rw [HW0.out]
  refine (HA.out).mono ?_
  rintro e w1 ⟨⟨v', rfl, ho⟩, hb, hk⟩
  have hR1 := hk _ _ _ _ (by decide) HR.out
  obtain ⟨r1, r2⟩ := ixc hR1
  have HO1 := Lib.hid ho; have KB1 := Lib.hid (KB.out.trans hb); have HR1 := Lib.hid hR1; have K1 := Lib.hid (K0.out.trans hk)
  clear ho hb hk hR1 HA
  dsimp only
  go_wp2_with fail
  (try simp only [Exit.inBlock, Exit.then])
  have hfin : (w1.setCell ⟨w.heap.size + 1 + 1, 0, none⟩ (Value.int IntKind.u32 I)).heap[w.heap.size + 1 + 1]? = some (Obj.cells #[Value.int IntKind.u32 I] 45 (0, 0)) := ix_set I HR1.out
  refine bodyPost_ret (v := .tuple #[v', .agg #[.int .u32 I]]) ?_ rfl ⟨⟨_, rfl, own_set HO1.out HR1.out (by decide) _⟩, KB1.out.setCell (by have := HBB.out; simp; omega) _, keep_set_new K1.out (by omega) _⟩
  rw [results_tmp_cell rfl]
  simp [asAddr, Result.andThen, run_loadVar_row _ (w.heap.size + 1 + 1) 45 45 #[.int .u32 I] (0, 0) _ hfin Tryd.underlying45 rfl (by kernel_rfl)]
/-- the coded fields of a state lie within 2^26 -/
def St26 (c s l o n : Int) : Prop := (-67108864 ≤ c ∧ c ≤ 67108864) ∧ (-67108864 ≤ s ∧ s ≤ 67108864) ∧ (-67108864 ≤ l ∧ l ≤ 67108864) ∧ (-67108864 ≤ o ∧ o ≤ 67108864) ∧ (-67108864 ≤ n ∧ n ≤ 67108864)
/-- the answer is a bool; if it is true, so is P -/
def BoolIf (e : Ending) (P : Prop) : Prop := ∃ b, e = .returned (.bool b) ∧ (b = true → P)
theorem BoolIf.no {P : Prop} : BoolIf (.returned (.bool false)) P := ⟨false, rfl, fun h => by cases h⟩
theorem BoolIf.yes {P : Prop} (h : P) : BoolIf (.returned (.bool true)) P := ⟨true, rfl, fun _ => h⟩
set_option maxRecDepth 100000 in
set_option maxHeartbeats 2000000 in
theorem ok17 (g c s l o n : Int) (h : Bool) (w : World) : Calls Tryd.prog 17 #[.agg (stV g c s l o n h), .int .i64 67108864] w fun e w' => BoolIf e (St26 c s l o n) ∧ Below w.heap.size w w' := by
  have HB := Lib.hid (fun ob => ((Below.refl w.heap.size w).alloc (Nat.le_refl _) ob : Below w.heap.size w (w.alloc ob)))
  by_cases a1 : c < -67108864
  · go_enter Tryd.func17, Tryd.ntmps17
    go_wp2_with fail
    go_ret
    exact ⟨BoolIf.no, HB.out _⟩
  by_cases a2 : 67108864 < c
  · go_enter Tryd.func17, Tryd.ntmps17
    go_wp2_with fail
    go_ret
    exact ⟨BoolIf.no, HB.out _⟩
  by_cases b1 : s < -67108864
  · go_enter Tryd.func17, Tryd.ntmps17
    go_wp2_with fail
    go_ret
    exact ⟨BoolIf.no, HB.out _⟩
  by_cases b2 : 67108864 < s
  · go_enter Tryd.func17, Tryd.ntmps17
    go_wp2_with fail
    go_ret
    exact ⟨BoolIf.no, HB.out _⟩
  by_cases d1 : l < -67108864
  · go_enter Tryd.func17, Tryd.ntmps17
    go_wp2_with fail
    go_ret
    exact ⟨BoolIf.no, HB.out _⟩
  by_cases d2 : 67108864 < l
  · go_enter Tryd.func17, Tryd.ntmps17
    go_wp2_with fail
    go_ret
    exact ⟨BoolIf.no, HB.out _⟩
  by_cases f1 : o < -67108864
  · go_enter Tryd.func17, Tryd.ntmps17
    go_wp2_with fail
    go_ret
    exact ⟨BoolIf.no, HB.out _⟩
  by_cases f2 : 67108864 < o
  · go_enter Tryd.func17, Tryd.ntmps17
    go_wp2_with fail
    go_ret
    exact ⟨BoolIf.no, HB.out _⟩
  by_cases g1 : n < -67108864
  · go_enter Tryd.func17, Tryd.ntmps17
    go_wp2_with fail
    go_ret
    exact ⟨BoolIf.no, HB.out _⟩
  by_cases g2 : 67108864 < n
  · go_enter Tryd.func17, Tryd.ntmps17
    go_wp2_with fail
    go_ret
    exact ⟨BoolIf.no, HB.out _⟩
  go_enter Tryd.func17, Tryd.ntmps17
  go_wp2_with fail
  go_ret
  exact ⟨BoolIf.yes (by unfold St26; omega), HB.out _⟩
end Go.Proofs.YtbigamkmkmfdfaaDoor
