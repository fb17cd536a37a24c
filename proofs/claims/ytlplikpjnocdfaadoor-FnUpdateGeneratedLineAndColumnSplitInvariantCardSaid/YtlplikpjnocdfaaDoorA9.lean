/-
  appendMappingWithoutRemapping.
-/
import Derived.Test.YtlplikpjnocdfaaDoorA8
import Derived.IntWalk
namespace Go.Proofs.YtlplikpjnocdfaaDoor
open Go.ChangeShapes Go.WideShapes Go.ChangeAt Go.RowKit
set_option linter.unusedVariables false
theorem cells7 {w : World} {k : Nat} {g c s l o n : Int} {b : Bool} {T : TypeId} {fl : Nat × Nat} (h : w.heap[k]? = some (Obj.cells (stV g c s l o n b) T fl)) :
    w.cell? ⟨k, 0, none⟩ = some (.int .i64 g) ∧ w.cell? ⟨k, 1, none⟩ = some (.int .i64 c) ∧ w.cell? ⟨k, 2, none⟩ = some (.int .i64 s) ∧ w.cell? ⟨k, 3, none⟩ = some (.int .i64 l) ∧ w.cell? ⟨k, 4, none⟩ = some (.int .i64 o) ∧ w.cell? ⟨k, 5, none⟩ = some (.int .i64 n) ∧ w.cell? ⟨k, 6, none⟩ = some (.bool b) := by
  refine ⟨?_, ?_, ?_, ?_, ?_, ?_, ?_⟩ <;> (simp only [World.cell?, h]; rfl)
section
variable {w : World} {k : Nat} {m v : Value} {g c s l o n : Int} {h : Bool} {lu gc fn : Int} {hp ls : Bool}
theorem bd_st (b : Bd w k m v g c s l o n h lu gc fn hp ls) (c0 c1 c2 c3 c4 c5 : Int) (ch : Bool) :
    Bd (((((((w.setCell ⟨k, 6, none⟩ (.int .i64 c0)).setCell ⟨k, 7, none⟩ (.int .i64 c1)).setCell ⟨k, 8, none⟩ (.int .i64 c2)).setCell ⟨k, 9, none⟩ (.int .i64 c3)).setCell ⟨k, 10, none⟩ (.int .i64 c4)).setCell ⟨k, 11, none⟩ (.int .i64 c5)).setCell ⟨k, 12, none⟩ (.bool ch)) k m v c0 c1 c2 c3 c4 c5 ch lu gc fn hp ls := by
  have h6 := bd_set 12 (.bool ch) (bd_set 11 (.int .i64 c5) (bd_set 10 (.int .i64 c4) (bd_set 9 (.int .i64 c3) (bd_set 8 (.int .i64 c2) (bd_set 7 (.int .i64 c1) (bd_set 6 (.int .i64 c0) b))))))
  unfold Bd
  simpa using h6
theorem bd_set1 (b : Bd w k m v g c s l o n h lu gc fn hp ls) (v' : Value) : Bd (w.setCell ⟨k, 1, none⟩ v') k m v' g c s l o n h lu gc fn hp ls := by
  have h6 := bd_set 1 v' b
  unfold Bd; simpa using h6
theorem bd_set6 (b : Bd w k m v g c s l o n h lu gc fn hp ls) (x : Int) : Bd (w.setCell ⟨k, 6, none⟩ (.int .i64 x)) k m v x c s l o n h lu gc fn hp ls := by
  have h6 := bd_set 6 (.int .i64 x) b
  unfold Bd; simpa using h6
theorem bd_set7 (b : Bd w k m v g c s l o n h lu gc fn hp ls) (x : Int) : Bd (w.setCell ⟨k, 7, none⟩ (.int .i64 x)) k m v g x s l o n h lu gc fn hp ls := by
  have h6 := bd_set 7 (.int .i64 x) b
  unfold Bd; simpa using h6
theorem bd_set11 (b : Bd w k m v g c s l o n h lu gc fn hp ls) (x : Int) : Bd (w.setCell ⟨k, 11, none⟩ (.int .i64 x)) k m v g c s l o x h lu gc fn hp ls := by
  have h6 := bd_set 11 (.int .i64 x) b
  unfold Bd; simpa using h6
theorem bd_set13 (b : Bd w k m v g c s l o n h lu gc fn hp ls) (x : Int) : Bd (w.setCell ⟨k, 13, none⟩ (.int .i64 x)) k m v g c s l o n h x gc fn hp ls := by
  have h6 := bd_set 13 (.int .i64 x) b
  unfold Bd; simpa using h6
theorem bd_set14 (b : Bd w k m v g c s l o n h lu gc fn hp ls) (x : Int) : Bd (w.setCell ⟨k, 14, none⟩ (.int .i64 x)) k m v g c s l o n h lu x fn hp ls := by
  have h6 := bd_set 14 (.int .i64 x) b
  unfold Bd; simpa using h6
theorem bd_set17 (b : Bd w k m v g c s l o n h lu gc fn hp ls) (x : Int) : Bd (w.setCell ⟨k, 17, none⟩ (.int .u32 x)) k m v g c s l o n h lu gc x hp ls := by
  have h6 := bd_set 17 (.int .u32 x) b
  unfold Bd; simpa using h6
theorem bd_set18 (b : Bd w k m v g c s l o n h lu gc fn hp ls) (x : Bool) : Bd (w.setCell ⟨k, 18, none⟩ (.bool x)) k m v g c s l o n h lu gc fn x ls := by
  have h6 := bd_set 18 (.bool x) b
  unfold Bd; simpa using h6
theorem bd_set20 (b : Bd w k m v g c s l o n h lu gc fn hp ls) (x : Bool) : Bd (w.setCell ⟨k, 20, none⟩ (.bool x)) k m v g c s l o n h lu gc fn hp x := by
  have h6 := bd_set 20 (.bool x) b
  unfold Bd; simpa using h6
theorem bd_own (b : Bd w k m v g c s l o n h lu gc fn hp ls) {B : Nat} {u : Value} {xs : List Int} (hO : OwnB w B u xs) (j : Nat) (x : Value) : OwnB (w.setCell ⟨k, j, none⟩ x) B u xs := own_set hO b (by decide) j x
theorem own_st (b : Bd w k m v g c s l o n h lu gc fn hp ls) {B : Nat} {u : Value} {xs : List Int} (hO : OwnB w B u xs) (c0 c1 c2 c3 c4 c5 : Int) (ch : Bool) :
    OwnB (((((((w.setCell ⟨k, 6, none⟩ (.int .i64 c0)).setCell ⟨k, 7, none⟩ (.int .i64 c1)).setCell ⟨k, 8, none⟩ (.int .i64 c2)).setCell ⟨k, 9, none⟩ (.int .i64 c3)).setCell ⟨k, 10, none⟩ (.int .i64 c4)).setCell ⟨k, 11, none⟩ (.int .i64 c5)).setCell ⟨k, 12, none⟩ (.bool ch)) B u xs := by
  have h0 := bd_set 6 (.int .i64 c0) b
  have h1 := bd_set 7 (.int .i64 c1) h0
  have h2 := bd_set 8 (.int .i64 c2) h1
  have h3 := bd_set 9 (.int .i64 c3) h2
  have h4 := bd_set 10 (.int .i64 c4) h3
  have h5 := bd_set 11 (.int .i64 c5) h4
  exact own_set (own_set (own_set (own_set (own_set (own_set (own_set hO b (by decide) 6 _) h0 (by decide) 7 _) h1 (by decide) 8 _) h2 (by decide) 9 _) h3 (by decide) 10 _) h4 (by decide) 11 _) h5 (by decide) 12 _
end
/-- the first name's place: kept once it is valid -/
def fnI (ch : Bool) (fn I : Int) : Int := if ch = true ∧ fn = 0 then I else fn
set_option maxRecDepth 100000 in
set_option maxHeartbeats 8000000 in
theorem am28 (w : World) (k : Nat) (m v : Value) (xs : List Int) (lb : Int) (p0 p1 p2 p3 p4 p5 : Int) (ph : Bool) (lu gc fn : Int) (hp ls : Bool) (c0 c1 c2 c3 c4 c5 : Int) (ch : Bool) (R o cc : Nat)
    (hb : Bd w k m v p0 p1 p2 p3 p4 p5 ph lu gc fn hp ls) (hO : OwnB w (k + 1) v xs) (hT : TabB w k R o cc) (hxs : xs.length ≤ 33554432) (hlb : lb ≠ 34) (hlast : (xs = [] ∧ lb = 0) ∨ ∃ ys, xs = ys ++ [lb])
    (e1 : In33 (c1 - p1)) (e2 : In33 (c2 - p2)) (e3 : In33 (c3 - p3)) (e4 : In33 (c4 - p4)) (e5 : ch = true → In33 (c5 - p5)) (I : Int) (XS : List Int)
    (hI : Hid (nameI xs lb ch (c1 - p1) (c2 - p2) (c3 - p3) (c4 - p4) = I)) (hX : Hid (outM xs lb ch (c1 - p1) (c2 - p2) (c3 - p3) (c4 - p4) (c5 - p5) = XS)) :
    Calls Tryd.prog 28 #[.pointer (some ⟨k, 0, none⟩), .agg (stV c0 c1 c2 c3 c4 c5 ch)] w fun e w' => e = .returned (.tuple #[]) ∧ ∃ v', Bd w' k m v' c0 c1 c2 c3 c4 (if ch then c5 else p5) ch lu gc (fnI ch fn I) true ls ∧ OwnB w' (k + 1) v' XS ∧ MvK k w w' v v' := by
  have hk := hb.lt
  obtain ⟨y1, y6, y7, y8, y9, y10, y11, y12, y13, y14, y17, y18, y20, y21, yf⟩ := hb.cells
  have HB := Lib.hid hb; have HO := Lib.hid hO; have HT := Lib.hid hT; have HL := Lib.hid hlast; have HK := Lib.hid hk
  have HE := Lib.hid (And.intro e1 (And.intro e2 (And.intro e3 (And.intro e4 e5))))
  clear e1 e2 e3 e4 e5 hb hT hlast
  obtain ⟨pp, cp, hv, hcap, hcells⟩ := hO.bytes
  obtain ⟨N, hN⟩ : ∃ N, xs.length = N := ⟨_, rfl⟩
  have HN := Lib.hid hN; have HXS := Lib.hid hxs
  rw [hN] at hv hcap hcells hxs
  subst hv
  clear hO hN
  go_enter Tryd.func28, Tryd.ntmps28
  go_upto_if 12 with fail
  go_cut [4] (fun v wx => v = .int .u8 lb ∧ ∃ nq, wx = (w.alloc (Obj.cells (stV c0 c1 c2 c3 c4 c5 ch) 32)).drewN nq)
  case first =>
    rcases HL.out with ⟨rfl, rfl⟩ | ⟨ys, hys⟩
    · obtain rfl : N = 0 := by rw [← HN.out]; rfl
      go_wp2_with fail
      go_meet
      exact ⟨rfl, 0, rfl⟩
    · obtain ⟨n, hn⟩ : ∃ n, ys.length = n := ⟨_, rfl⟩
      have hxn : n + 1 = N := by rw [← HN.out, hys]; simp [hn]
      obtain ⟨a, ha, hc⟩ := hcells n (by omega)
      have hcv : xs.getD n 0 = lb := by rw [hys]; simp [List.getD, ← hn]
      rw [hcv] at hc
      subst ha
      have hlt : n < N := by omega
      have hnz : ((N : Int) != 0) = true := by simp; omega
      have hwr : IntKind.i64.wrap ((N : Int) - 1) = (n : Int) := by rw [IntWalk.i64_in _ (by omega)]; omega
      have hn0 : (0:Int) ≤ (n : Int) := by omega
      have hab : (a.add n).block < w.heap.size := block_lt_of_cell hc
      clear hcells hcv hys hn hlb hxn
      go_wp2_with fail
      go_quiet (fail)
      go_wp2_with fail
      go_meet
      exact ⟨rfl, _, rfl⟩
  case rest =>
    obtain ⟨rfl, nq, rfl⟩ := hcut
    go_wp2_with fail
    obtain ⟨W1, hW1⟩ : ∃ W1, (((w.alloc (Obj.cells (stV c0 c1 c2 c3 c4 c5 ch) 32)).drewN nq).alloc (Obj.cells #[Value.int IntKind.u32 0] 59)) = W1 := ⟨_, rfl⟩
    have b1 : Below w.heap.size w W1 := by rw [← hW1]; exact (((Below.refl _ _).alloc (Nat.le_refl _) _).trans ((below_drewN _ _).mono (by simp))).alloc (by simp) _
    have s1 : w.heap.size + 1 + 1 ≤ W1.heap.size := by rw [← hW1]; simp
    have hC : W1.heap[w.heap.size]? = some (Obj.cells (stV c0 c1 c2 c3 c4 c5 ch) 32 (0, 0)) := by
      rw [← hW1, heap_alloc_old _ _ (by simp)]; exact heap_alloc_new w (Obj.cells (stV c0 c1 c2 c3 c4 c5 ch) 32)
    have hR : W1.heap[w.heap.size + 1]? = some (Obj.cells #[Value.int IntKind.u32 0] 59 (0, 0)) := by
      rw [← hW1]
      have := heap_alloc_new ((w.alloc (Obj.cells (stV c0 c1 c2 c3 c4 c5 ch) 32)).drewN nq) (Obj.cells #[Value.int IntKind.u32 0] 59)
      rw [show ((w.alloc (Obj.cells (stV c0 c1 c2 c3 c4 c5 ch) 32)).drewN nq).heap.size = w.heap.size + 1 by simp] at this
      exact this
    rw [hW1]
    have HB1 := Lib.hid (HB.out.below (b1.mono (show k + 1 ≤ w.heap.size from hk)))
    have HO1 := Lib.hid (HO.out.keep b1)
    have HT1 := Lib.hid ((HT.out.below (b1.mono (show k ≤ w.heap.size by omega))).mono (show k ≤ k + 1 by omega))
    have HC := Lib.hid hC; have HR := Lib.hid hR; have HS := Lib.hid s1
    have HM1 := Lib.hid ((Mv.of_below (.slice pp N cp) b1).k k)
    have HB1s := Lib.hid (show k + 1 ≤ W1.heap.size by omega)
    clear y1 y6 y7 y8 y9 y10 y11 y12 y13 y14 y17 y18 y20 y21 yf b1 s1 hC hR hW1 hcells hcap
    obtain ⟨y1, y6, y7, y8, y9, y10, y11, y12, y13, y14, y17, y18, y20, y21, yf⟩ := HB1.out.cells
    obtain ⟨z0, z1, z2, z3, z4, z5, z6⟩ := cells7 HC.out
    have HOD := Lib.hid (show OwnB W1.drew (k + 1) (.slice pp N cp) xs from World.ownsRow.drew HO1.out)
    have HTD := Lib.hid (show TabB W1.drew (k + 1) R o cc from HT1.out.below (Below.drew (Below.refl _ _)))
    go_upto_region 5 with fail
    go_cut [] (fun wx => ∃ v2, Hid (Bd wx k m v2 p0 p1 p2 p3 p4 p5 ph lu gc fn hp ls ∧ OwnB wx (k + 1) v2 XS ∧ wx.heap[w.heap.size]? = some (Obj.cells (stV c0 c1 c2 c3 c4 c5 ch) 32 (0, 0)) ∧ wx.heap[w.heap.size + 1]? = some (Obj.cells #[Value.int IntKind.u32 I] 59 (0, 0)) ∧ MvK k w wx (.slice pp N cp) v2))
    case first =>
      go_region_with ((go_at_call 34; refine (app34 _ (k + 1) _ xs lb ch p0 p1 p2 p3 p4 p5 ph c0 c1 c2 c3 c4 c5 R o cc HOD.out HB1s.out HTD.out HXS.out hlb HE.out.1 HE.out.2.1 HE.out.2.2.1 HE.out.2.2.2.1 HE.out.2.2.2.2 I XS hI.out hX.out).mono ?_; rintro e w2 ⟨v2, rfl, o2, m2⟩; obtain ⟨pq, cq, hvq, _, _⟩ := o2.bytes; obtain ⟨NQ, hNQ⟩ : ∃ N, XS.length = N := ⟨_, rfl⟩; rw [hNQ] at hvq; subst hvq; clear hNQ; have hb2 := m2.keep HOD.out HB1.out (by decide); have hr2 := m2.keep HOD.out HR.out (by decide); have HB2 := Lib.hid hb2; have HR2 := Lib.hid hr2; have HO2 := Lib.hid o2; have HM2 := Lib.hid m2; have HC2 := Lib.hid (m2.keep HOD.out HC.out (by decide)); obtain ⟨x1, _, _, _, _, _, _, _, _, _, _, _, _, _, xf⟩ := Bd.cells hb2; obtain ⟨r1, r2⟩ := ixc hr2; clear hb2 hr2 o2 m2))
      all_goals
        have hkr : k ≠ w.heap.size + 1 := by omega
        have hcr : w.heap.size ≠ w.heap.size + 1 := by omega
        have hck : w.heap.size ≠ k := by omega
        have hb1 := bd_set1 HB2.out (.slice pq NQ cq)
        have hr1 := (heap_set_other 1 (.slice pq NQ cq) hkr.symm).trans HR2.out
        go_wp2_with fail
        go_meet
        exact ⟨_, Lib.hid ⟨(heap_set_other 0 _ hkr).trans hb1, own_set (bd_own HB2.out HO2.out 1 _) hr1 (by decide) 0 _, (heap_set_other 0 _ hcr).trans ((heap_set_other 1 _ hck).trans HC2.out), ix_set I hr1, ((HM1.out.drew.trans (HM2.out.k k)).set 1 _).setNew (by omega) 0 _⟩⟩
    case rest =>
      obtain ⟨v2, HX⟩ := hcut
      clear y1 y6 y7 y8 y9 y10 y11 y12 y13 y14 y17 y18 y20 y21 yf z0 z1 z2 z3 z4 z5 z6
      obtain ⟨y1, y6, y7, y8, y9, y10, y11, y12, y13, y14, y17, y18, y20, y21, yf⟩ := Bd.cells HX.out.1
      obtain ⟨z0, z1, z2, z3, z4, z5, z6⟩ := cells7 HX.out.2.2.1
      obtain ⟨r1, r2⟩ := ixc HX.out.2.2.2.1
      have hkx := Bd.lt HX.out.1
      have HKs := Lib.hid HX.out.2.2.2.2
      cases ch
      · have HBx := Lib.hid (bd_st HX.out.1 c0 c1 c2 c3 c4 c5 false)
        have HOx := Lib.hid (own_st HX.out.1 HX.out.2.1 c0 c1 c2 c3 c4 c5 false)
        have HMx := Lib.hid (((((((HKs.out.set 6 (.int .i64 c0)).set 7 (.int .i64 c1)).set 8 (.int .i64 c2)).set 9 (.int .i64 c3)).set 10 (.int .i64 c4)).set 11 (.int .i64 c5)).set 12 (.bool false))
        obtain ⟨W7, hW7⟩ : ∃ W7, (((((((wc.setCell ⟨k, 6, none⟩ (.int .i64 c0)).setCell ⟨k, 7, none⟩ (.int .i64 c1)).setCell ⟨k, 8, none⟩ (.int .i64 c2)).setCell ⟨k, 9, none⟩ (.int .i64 c3)).setCell ⟨k, 10, none⟩ (.int .i64 c4)).setCell ⟨k, 11, none⟩ (.int .i64 c5)).setCell ⟨k, 12, none⟩ (.bool false)) = W7 := ⟨_, rfl⟩
        rw [hW7] at HBx HOx HMx
        have HW7 := Lib.hid hW7
        clear hW7
        go_wp2_with fail
        rw [HW7.out]
        go_end0
        refine ⟨rfl, v2, ?_, ?_, (HMx.out.set 11 _).set 18 _⟩
        · rw [show fnI false fn I = fn by unfold fnI; rw [if_neg (by simp)]]
          exact bd_set18 (bd_set11 HBx.out p5) true
        · exact bd_own (bd_set11 HBx.out p5) (bd_own HBx.out HOx.out 11 _) 18 _
      · have HBx := Lib.hid (bd_st HX.out.1 c0 c1 c2 c3 c4 c5 true)
        have HOx := Lib.hid (own_st HX.out.1 HX.out.2.1 c0 c1 c2 c3 c4 c5 true)
        have HMx := Lib.hid (((((((HKs.out.set 6 (.int .i64 c0)).set 7 (.int .i64 c1)).set 8 (.int .i64 c2)).set 9 (.int .i64 c3)).set 10 (.int .i64 c4)).set 11 (.int .i64 c5)).set 12 (.bool true))
        have hkr : w.heap.size + 1 ≠ k := by omega
        have HRx := Lib.hid ((heap_set_other 12 (.bool true) hkr).trans ((heap_set_other 11 (.int .i64 c5) hkr).trans ((heap_set_other 10 (.int .i64 c4) hkr).trans ((heap_set_other 9 (.int .i64 c3) hkr).trans ((heap_set_other 8 (.int .i64 c2) hkr).trans ((heap_set_other 7 (.int .i64 c1) hkr).trans ((heap_set_other 6 (.int .i64 c0) hkr).trans HX.out.2.2.2.1)))))))
        obtain ⟨W7, hW7⟩ : ∃ W7, (((((((wc.setCell ⟨k, 6, none⟩ (.int .i64 c0)).setCell ⟨k, 7, none⟩ (.int .i64 c1)).setCell ⟨k, 8, none⟩ (.int .i64 c2)).setCell ⟨k, 9, none⟩ (.int .i64 c3)).setCell ⟨k, 10, none⟩ (.int .i64 c4)).setCell ⟨k, 11, none⟩ (.int .i64 c5)).setCell ⟨k, 12, none⟩ (.bool true)) = W7 := ⟨_, rfl⟩
        rw [hW7] at HBx HOx HMx HRx
        have HW7 := Lib.hid hW7
        clear hW7 hkr
        go_wp2_with fail
        rw [HW7.out]
        refine (iv30 fn W7).mono ?_
        rintro e w3 ⟨rfl, hb3⟩
        have HB3 := Lib.hid (show Bd w3 k m v2 c0 c1 c2 c3 c4 c5 true lu gc fn hp ls from (hb3.block k (Bd.lt HBx.out)).trans HBx.out)
        have HO3 := Lib.hid (HOx.out.keep hb3)
        have HR3 := Lib.hid ((hb3.block _ (Array.getElem?_eq_some_iff.1 HRx.out).1).trans HRx.out)
        have HM3 := Lib.hid (HMx.out.trans ((Mv.of_below v2 hb3).k k))
        clear y1 y6 y7 y8 y9 y10 y11 y12 y13 y14 y17 y18 y20 y21 yf z0 z1 z2 z3 z4 z5 z6 r1 r2 hb3 hkx
        obtain ⟨y1, y6, y7, y8, y9, y10, y11, y12, y13, y14, y17, y18, y20, y21, yf⟩ := Bd.cells HB3.out
        obtain ⟨r1, r2⟩ := ixc HR3.out
        have hkx := Bd.lt HB3.out
        dsimp only
        by_cases hf : fn = 0
        · subst hf
          go_wp2_with fail
          go_end0
          refine ⟨rfl, v2, ?_, ?_, (HM3.out.set 17 _).set 18 _⟩
          · rw [show fnI true 0 I = I by unfold fnI; rw [if_pos ⟨rfl, rfl⟩]]
            exact bd_set18 (bd_set17 HB3.out I) true
          · exact bd_own (bd_set17 HB3.out I) (bd_own HB3.out HO3.out 17 _) 18 _
        · have hfb : (fn != 0) = true := by simp [hf]
          have HF := Lib.hid hf
          clear hf
          go_wp2_with fail
          go_end0
          refine ⟨rfl, v2, ?_, ?_, HM3.out.set 18 _⟩
          · rw [show fnI true fn I = fn by unfold fnI; rw [if_neg (fun h => HF.out h.2)]]
            exact bd_set18 HB3.out true
          · exact bd_own HB3.out HO3.out 18 _
end Go.Proofs.YtlplikpjnocdfaaDoor
