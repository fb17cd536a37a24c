/-
  The walk of FnUpdateGeneratedLineAndColumnSplitInvariant.
-/
import Derived.Test.YtlplikpjnocdfaaDoorC8
import Derived.Laws.StructEq
namespace Go.Proofs.YtlplikpjnocdfaaDoor
open Go.ChangeShapes Go.WideShapes Go.ChangeAt Go.RowKit
set_option linter.unusedVariables false
@[go_sem] theorem st_same4 (w : World) (g c s l o n : Int) (h : Bool) : (binOp .neq 32 (.agg (stV g c s l o n h)) (.agg (stV g c s l o n h))).run Tryd.prog w = .ok (.bool false) w := by
  simp [go_sem]
set_option maxRecDepth 100000 in
set_option maxHeartbeats 8000000 in
theorem core4 (w : World) (a : Option Addr) (len cap : Nat) (xs : List Int) (k : Int) (hm : Bool) (h8 : At8 w (.slice a len cap) xs) (hn : xs.length = len) (hlen : len ≤ maxLen) (hT : Lib.TabSlice 0 .u8 b64 w) :
    Calls Tryd.prog 4 #[.slice a len cap, .int .i64 k, .bool hm] w fun e w' => e = .returned (.bool true) ∧ Below w.heap.size w w' := by
  obtain ⟨R, oo, cc, hTab⟩ := tab_in hT
  have HTab := Lib.hid (TabB.of hTab)
  unfold maxLen at hlen
  have H8 := Lib.hid h8; have HN := Lib.hid hn
  clear hT hTab hn
  by_cases hbig : 1048576 < len
  · clear h8
    go_enter Tryd.func4, Tryd.ntmps4
    go_wp2_with (go_at_call 19; go_in)
    go_ret
    exact ⟨rfl, Below.refl _ _⟩
  by_cases hk0 : k < 0
  · clear h8
    go_enter Tryd.func4, Tryd.ntmps4
    go_wp2_with (go_at_call 19; go_in)
    go_ret
    exact ⟨rfl, Below.refl _ _⟩
  obtain ⟨kn, rfl⟩ := Int.eq_ofNat_of_zero_le (by omega : 0 ≤ k)
  by_cases hkl : len < kn
  · clear h8
    go_enter Tryd.func4, Tryd.ntmps4
    go_wp2_with (go_at_call 19; go_in)
    go_ret
    exact ⟨rfl, Below.refl _ _⟩
  have HR := Lib.hid (rb20 w (.slice a len cap) xs kn h8 (by rw [HN.out]; omega) (by rw [HN.out]; omega))
  obtain ⟨pc, cpc, hvc, hcapc, hcells⟩ := h8.cell
  rw [HN.out] at hvc hcapc hcells
  have HCE := Lib.hid (show ∀ i, i < len → ∃ x, a = some x ∧ w.cell? (x.add i) = some (.int .u8 (nb xs i : Nat)) by
    injection hvc with e1 e2 e3
    rw [e1]; exact hcells)
  clear hvc hcapc hcells h8
  go_enter Tryd.func4, Tryd.ntmps4
  go_wp2_with (go_at_call 19; go_in)
  refine (HR.out).mono ?_
  rintro e w1 ⟨⟨b, rfl, hb⟩, mw, rfl⟩
  cases b
  · dsimp only
    go_wp2_with fail
    go_ret
    exact ⟨rfl, below_drewN _ _⟩
  have HBND := Lib.hid (hb rfl)
  clear hb HR
  dsimp only
  by_cases hx : 0 < kn ∧ kn < len ∧ nb xs (kn - 1) = 13 ∧ nb xs kn = 10
  · obtain ⟨x1, x2, x3, x4⟩ := hx
    obtain ⟨km, hkm⟩ : ∃ j, kn - 1 = j := ⟨_, rfl⟩
    obtain ⟨ad, hpa, q1⟩ := HCE.out km (by omega)
    obtain ⟨_, hpa', q2⟩ := HCE.out kn x2
    subst hpa
    cases hpa'
    rw [hkm] at x3
    rw [x3] at q1
    rw [x4] at q2
    have f1 : (kn : Int) - 1 = (km : Int) := by omega
    have l1 : km < len := by omega
    clear hkm x3 x4
    go_wp2_with fail
    go_ret
    exact ⟨rfl, below_drewN _ _⟩
  have HX := Lib.hid hx
  go_upto_region 9 with fail
  go_cut [52] (fun v52 wx => v52 = .bool false ∧ w.drewN mw = wx)
  case first =>
    by_cases x1 : 0 < kn
    · by_cases x2 : kn < len
      · obtain ⟨km, hkm⟩ : ∃ j, kn - 1 = j := ⟨_, rfl⟩
        obtain ⟨ad, hpa, q1⟩ := HCE.out km (by omega)
        obtain ⟨_, hpa', q2⟩ := HCE.out kn x2
        subst hpa
        cases hpa'
        obtain ⟨b1, hb1⟩ : ∃ x, nb xs km = x := ⟨_, rfl⟩
        obtain ⟨b2, hb2⟩ : ∃ x, nb xs kn = x := ⟨_, rfl⟩
        rw [hb1] at q1
        rw [hb2] at q2
        have hne : ¬ (b1 = 13 ∧ b2 = 10) := fun h => hx ⟨x1, x2, by rw [hkm, hb1]; exact h.1, by rw [hb2]; exact h.2⟩
        have f1 : (kn : Int) - 1 = (km : Int) := by omega
        have l1 : km < len := by omega
        by_cases c1 : b1 = 13
        · subst c1
          have d2 : ((b2 : Int) == 10) = false := by simp; intro h; exact hne ⟨rfl, by omega⟩
          clear hx hkm hb1 hb2 hne
          go_wp2_with fail
          go_meet
          exact ⟨rfl, rfl⟩
        · have d1 : ((b1 : Int) == 13) = false := by simp; omega
          clear hx hkm hb1 hb2 hne c1
          go_wp2_with fail
          go_meet
          exact ⟨rfl, rfl⟩
      · clear hx
        go_wp2_with fail
        go_meet
        exact ⟨rfl, rfl⟩
    · clear hx
      go_wp2_with fail
      go_meet
      exact ⟨rfl, rfl⟩
  case rest =>
    obtain ⟨rfl, rfl⟩ := hcut
    clear hx
    go_wp2_with fail
    refine (cl21 (w.drewN mw) a len cap xs (H8.out.1.keep (below_drewN _ _)) (by omega)).mono ?_
    rintro e w2 ⟨p2, rfl, r2, bb2⟩
    have H82 := Lib.hid (show At8 w2 (.slice p2 len len) xs from ⟨r2, H8.out.2⟩)
    have HB2 := Lib.hid (show Below w.heap.size w w2 from (below_drewN w mw).trans bb2)
    clear r2 bb2
    dsimp only
    go_wp2_with fail
    refine (nb9 w2).mono ?_
    rintro e w3 ⟨K1, m1, rfl, hbd1, hlo1, hb3⟩
    have HD1 := Lib.hid hbd1; have HB3 := Lib.hid hb3; have HL1 := Lib.hid hlo1
    clear hbd1 hb3 hlo1
    dsimp only
    go_wp2_with fail
    refine (nb9 w3).mono ?_
    rintro e w4 ⟨K2, m2, rfl, hbd2, hlo2, hb4⟩
    have hK1 := Bd.lt HD1.out
    have HPR := Lib.hid (show PR w4 K1 K2 m1 m2 (.slice none 0 0) (.slice none 0 0) US0 US0 0 0 from ⟨Bd.below HD1.out (hb4.mono hK1), hbd2, World.ownsRow_nil _ _ _ _, World.ownsRow_nil _ _ _ _, by omega, fun j hj => by cases hj⟩)
    have HB4 := Lib.hid (show Below w2.heap.size w2 w4 from HB3.out.trans (hb4.mono HB3.out.size))
    have HK := Lib.hid (show w2.heap.size ≤ K1 ∧ w2.heap.size ≤ K2 from ⟨HL1.out, by have := HB3.out.size; omega⟩)
    have HT4 := Lib.hid ((HTab.out.below (HB2.out.trans (HB4.out.mono HB2.out.size))).mono HB2.out.size)
    clear hbd2 hlo2 hb4 hK1 HD1
    dsimp only
    -- the two builders behind the one mapping, or not
    go_upto_if 57 with fail
    go_cut [] (fun wx => ∃ S v1 v2, Hid (PR wx K1 K2 m1 m2 v1 v2 S S 0 0 ∧ Inv S 0 ∧ Below w2.heap.size w2 wx))
    case first =>
      cases hm
      · go_wp2_with fail
        go_meet
        exact ⟨US0, _, _, Lib.hid ⟨HPR.out, inv0, HB4.out⟩⟩
      · go_wp2_with fail
        obtain ⟨W5, hW5⟩ : ∃ x, w4.alloc (Obj.cells (stV 0 7 1 2 3 0 false) 32) = x := ⟨_, rfl⟩
        have hb5 : Below w4.heap.size w4 W5 := by rw [← hW5]; exact (Below.refl _ _).alloc (Nat.le_refl _) _
        have hC5 : W5.heap[w4.heap.size]? = some (Obj.cells (stV 0 7 1 2 3 0 false) 32 (0, 0)) := by rw [← hW5]; exact heap_alloc_new w4 (Obj.cells (stV 0 7 1 2 3 0 false) 32)
        rw [hW5]
        have HP5 := Lib.hid (HPR.out.keep hb5)
        have HT5 := Lib.hid (HT4.out.below (hb5.mono HB4.out.size))
        have HC5 := Lib.hid hC5
        have HB5 := Lib.hid (HB4.out.trans (hb5.mono HB4.out.size))
        clear hW5 hb5 hC5
        refine (mp10 W5 K1 m1 R oo cc HP5.out.b1 HP5.out.o1 (HT5.out.mono HK.out.1)).mono ?_
        rintro e w6 ⟨rfl, v1, k1, k2, k3⟩
        have HP6 := Lib.hid (HP5.out.go1 k1 k2 k3)
        have HB6 := Lib.hid (HB5.out.trans (k3.below w2.heap.size HK.out.1 (by have := Bd.lt HP5.out.b1; omega) (fun j hj => by cases hj)))
        have HC6 := Lib.hid (show w6.heap[w4.heap.size]? = some (Obj.cells (stV 0 7 1 2 3 0 false) 32 (0, 0)) from (k3.block _ (Array.getElem?_eq_some_iff.1 HC5.out).1 (by have := Bd.lt HPR.out.b1; omega) (by intro h; cases h)).trans HC5.out)
        have HT6 := Lib.hid (HT5.out.below (k3.below w2.heap.size HK.out.1 (by have := Bd.lt HP5.out.b1; omega) (fun j hj => by cases hj)))
        clear k1 k2 k3
        obtain ⟨z0, z1, z2, z3, z4, z5, z6⟩ := cells7 HC6.out
        dsimp only
        go_wp2_with fail
        refine (mp10 w6 K2 m2 R oo cc HP6.out.b2 HP6.out.o2 (HT6.out.mono HK.out.2)).mono ?_
        rintro e w7 ⟨rfl, v2, k1, k2, k3⟩
        have HP7 := Lib.hid (HP6.out.go2 k1 k2 k3)
        have HB7 := Lib.hid (HB6.out.trans (k3.below w2.heap.size HK.out.2 (by have := Bd.lt HP6.out.b2; omega) (fun j hj => by cases hj)))
        clear k1 k2 k3
        dsimp only
        go_wp2_with fail
        go_meet
        exact ⟨US1, v1, v2, Lib.hid ⟨HP7.out, inv1, HB7.out⟩⟩
    case rest =>
      obtain ⟨S, v1, v2, HC⟩ := hcut
      have HTc := Lib.hid ((HTab.out.below (HB2.out.trans (HC.out.2.2.mono HB2.out.size))).mono HB2.out.size)
      have htl : (xs.take kn).length = kn := by rw [List.length_take, HN.out]; omega
      have hlx : len ≤ 1048576 := by omega
      have hkn : kn ≤ len := by omega
      have hz : p2 = none → len = 0 := fun h => by subst h; exact H82.out.nil
      have HA1 := Lib.hid (show ∀ W, Below w2.heap.size w2 W → At8 W (.slice p2 kn len) (xs.take kn) from fun W hW => (H82.out.keep hW).take kn hkn)
      have HA2 := Lib.hid (show ∀ W, Below w2.heap.size w2 W → At8 W (.slice p2 len len) xs from fun W hW => H82.out.keep hW)
      have HU1 := Lib.hid (up22 wc K1 m1 v1 p2 len (xs.take kn) 0 S R oo cc HC.out.1.b1 HC.out.1.o1 (HTc.out.mono HK.out.1) HC.out.2.1 (fun W hW => by rw [htl]; exact HA1.out W (HC.out.2.2.trans (hW.mono HK.out.1))) hz (by rw [htl]; omega) (Nat.zero_le _))
      rw [htl] at HU1
      have HI1 := Lib.hid (scan_inv (xs.take kn) (i := 0) HC.out.2.1 (Nat.zero_le _))
      rw [htl] at HI1
      obtain ⟨SA, hSA⟩ : ∃ x, scan (xs.take kn) 0 S = x := ⟨_, rfl⟩
      have HCUT := Lib.hid (show scan xs kn SA = scan xs 0 S by
        rw [← hSA]
        exact scan_cut xs kn (by rw [HN.out]; exact hkn) (by rw [HN.out]; exact HX.out) HBND.out S)
      rw [hSA] at HU1 HI1
      have hZ := Lib.hid hz
      clear hSA htl hz hkl hk0 hbig
      go_wp2_with fail
      refine (HU1.out).mono ?_
      rintro e w6 ⟨rfl, v3, k1, k2, k3⟩
      have hrow : ∀ j, v1.ownBlock = some j → w2.heap.size ≤ j := fun j hj => by have := HC.out.1.o1.lt j hj; have := HK.out.1; omega
      have HB6 := Lib.hid (show Below w2.heap.size w2 w6 from HC.out.2.2.trans (k3.below w2.heap.size HK.out.1 (by have := Bd.lt HC.out.1.b1; omega) hrow))
      have HP6 := Lib.hid (HC.out.1.go1 k1 k2 k3)
      have HT6 := Lib.hid ((HTab.out.below (HB2.out.trans (HB6.out.mono HB2.out.size))).mono HB2.out.size)
      have HU2 := Lib.hid (up22 w6 K1 m1 v3 p2 len xs kn SA R oo cc HP6.out.b1 HP6.out.o1 (HT6.out.mono HK.out.1) HI1.out (fun W hW => by rw [HN.out]; exact HA2.out W (HB6.out.trans (hW.mono HK.out.1))) hZ.out (by rw [HN.out]; omega) (by rw [HN.out]; omega))
      rw [HN.out, HCUT.out] at HU2
      clear k1 k2 k3 hrow HU1
      dsimp only
      go_wp2_with fail
      refine (HU2.out).mono ?_
      rintro e w7 ⟨rfl, v4, k1, k2, k3⟩
      have hrow : ∀ j, v3.ownBlock = some j → w2.heap.size ≤ j := fun j hj => by have := HP6.out.o1.lt j hj; have := HK.out.1; omega
      have HB7 := Lib.hid (show Below w2.heap.size w2 w7 from HB6.out.trans (k3.below w2.heap.size HK.out.1 (by have := Bd.lt HP6.out.b1; omega) hrow))
      have HP7 := Lib.hid (HP6.out.go1 k1 k2 k3)
      have HT7 := Lib.hid ((HTab.out.below (HB2.out.trans (HB7.out.mono HB2.out.size))).mono HB2.out.size)
      have HU3 := Lib.hid (up22 w7 K2 m2 v2 p2 len xs 0 S R oo cc HP7.out.b2 HP7.out.o2 (HT7.out.mono HK.out.2) HC.out.2.1 (fun W hW => by rw [HN.out]; exact HA2.out W (HB7.out.trans (hW.mono HK.out.2))) hZ.out (by rw [HN.out]; omega) (Nat.zero_le _))
      rw [HN.out] at HU3
      clear k1 k2 k3 hrow HU2
      dsimp only
      go_wp2_with fail
      refine (HU3.out).mono ?_
      rintro e w8 ⟨rfl, v5, k1, k2, k3⟩
      have hrow : ∀ j, v2.ownBlock = some j → w2.heap.size ≤ j := fun j hj => by have := HP7.out.o2.lt j hj; have := HK.out.2; omega
      have HB8 := Lib.hid (show Below w2.heap.size w2 w8 from HB7.out.trans (k3.below w2.heap.size HK.out.2 (by have := Bd.lt HP7.out.b2; omega) hrow))
      have HP8 := Lib.hid (HP7.out.go2 k1 k2 k3)
      obtain ⟨Z, hZZ⟩ : ∃ x, scan xs 0 S = x := ⟨_, rfl⟩
      have HLZ := Lib.hid (show (scan xs 0 S).buf.length ≤ 67108864 by
        have := (scan_inv xs (i := 0) HC.out.2.1 (Nat.zero_le _)).len
        rw [HN.out] at this
        omega)
      rw [hZZ] at HP8 HLZ
      clear k1 k2 k3 hrow HU3 hZZ
      have HB8w := Lib.hid (show Below w.heap.size w w8 from HB2.out.trans (HB8.out.mono HB2.out.size))
      dsimp only
      go_wp2_with fail
      refine (sm12 HP8.out.b1 HP8.out.o1).mono ?_
      rintro e wa ⟨rfl, hwa⟩
      have hwa' := hwa.symm
      subst hwa'
      dsimp only
      go_wp2_with fail
      refine (sm12 HP8.out.b2 HP8.out.o2).mono ?_
      rintro e wa ⟨rfl, hwa⟩
      have hwa' := hwa.symm
      subst hwa'
      dsimp only
      go_wp2_with fail
      refine (eq23 w8 v4 v5 Z.buf HP8.out.o1.bytes HP8.out.o2.bytes HLZ.out).mono ?_
      rintro e wa ⟨rfl, n9, rfl⟩
      have HP9 := Lib.hid (HP8.out.keep (below_drewN w8 n9))
      have HB9 := Lib.hid (show Below w.heap.size w (w8.drewN n9) from HB8w.out.trans ((below_drewN w8 n9).mono HB8w.out.size))
      dsimp only
      go_wp2_with fail
      refine (ps17 HP9.out.b1).mono ?_
      rintro e wb ⟨rfl, hbb⟩
      have HP10 := Lib.hid (HP9.out.keep hbb)
      have HB10 := Lib.hid (HB9.out.trans (hbb.mono HB9.out.size))
      clear hbb
      dsimp only
      go_wp2_with fail
      refine (ps17 HP10.out.b2).mono ?_
      rintro e wd ⟨rfl, hbb⟩
      have HP11 := Lib.hid (HP10.out.keep hbb)
      have HB11 := Lib.hid (HB10.out.trans (hbb.mono HB10.out.size))
      clear hbb
      dsimp only
      go_wp2_with fail
      refine (gc24 HP11.out.b1).mono ?_
      rintro e wa ⟨rfl, hwa⟩
      have hwa' := hwa.symm
      subst hwa'
      dsimp only
      go_wp2_with fail
      refine (gc24 HP11.out.b2).mono ?_
      rintro e wa ⟨rfl, hwa⟩
      have hwa' := hwa.symm
      subst hwa'
      dsimp only
      go_wp2_with fail
      refine (lu25 HP11.out.b1).mono ?_
      rintro e wa ⟨rfl, hwa⟩
      have hwa' := hwa.symm
      subst hwa'
      dsimp only
      go_wp2_with fail
      refine (lu25 HP11.out.b2).mono ?_
      rintro e wa ⟨rfl, hwa⟩
      have hwa' := hwa.symm
      subst hwa'
      dsimp only
      go_wp2_with fail
      refine (ls26 HP11.out.b1).mono ?_
      rintro e wa ⟨rfl, hwa⟩
      have hwa' := hwa.symm
      subst hwa'
      dsimp only
      go_wp2_with fail
      refine (ls26 HP11.out.b2).mono ?_
      rintro e wa ⟨rfl, hwa⟩
      have hwa' := hwa.symm
      subst hwa'
      dsimp only
      go_wp2_with fail
      refine (hp16 HP11.out.b1).mono ?_
      rintro e wa ⟨rfl, hwa⟩
      have hwa' := hwa.symm
      subst hwa'
      dsimp only
      go_wp2_with fail
      refine (hp16 HP11.out.b2).mono ?_
      rintro e wa ⟨rfl, hwa⟩
      have hwa' := hwa.symm
      subst hwa'
      dsimp only
      go_wp2_with fail
      go_ret
      exact ⟨by simp, HB11.out⟩
end Go.Proofs.YtlplikpjnocdfaaDoor
