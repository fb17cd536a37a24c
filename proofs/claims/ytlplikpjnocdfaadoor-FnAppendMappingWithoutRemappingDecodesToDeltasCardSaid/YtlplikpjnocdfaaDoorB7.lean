/-
  The walk of FnAppendMappingWithoutRemappingDecodesToDeltas.
-/
import Derived.Test.YtlplikpjnocdfaaDoorB6
import Derived.Deep.CutBlock
import Derived.Laws.StructEq
namespace Go.Proofs.YtlplikpjnocdfaaDoor
open Go.ChangeShapes Go.WideShapes Go.ChangeAt Go.RowKit
set_option linter.unusedVariables false
@[go_sem] theorem st_same (w : World) (g c s l o n : Int) (h : Bool) : (binOp .neq 32 (.agg (stV g c s l o n h)) (.agg (stV g c s l o n h))).run Tryd.prog w = .ok (.bool false) w := by
  simp [go_sem]
/-- which row is read, and what comes of it -/
inductive R5 (v0 v1 v2 v3 v4 : Value) (y0 y1 y2 y3 y4 : Int) : Value → Int → Prop
  | c0 : R5 v0 v1 v2 v3 v4 y0 y1 y2 y3 y4 v0 y0
  | c1 : R5 v0 v1 v2 v3 v4 y0 y1 y2 y3 y4 v1 y1
  | c2 : R5 v0 v1 v2 v3 v4 y0 y1 y2 y3 y4 v2 y2
  | c3 : R5 v0 v1 v2 v3 v4 y0 y1 y2 y3 y4 v3 y3
  | c4 : R5 v0 v1 v2 v3 v4 y0 y1 y2 y3 y4 v4 y4
/-- slot by slot: what the reader has read, k states on -/
structure RD (x0 x1 x2 x3 x4 : List Int) (x5 : List Bool) (k p : Nat) (q0 q1 q2 q3 q4 q5 : Int) : Prop where
  p : (bf x0 x1 x2 x3 x4 x5 k).length = p
  q0 : pv x0 k = q0
  q1 : pv x1 k = q1
  q2 : pv x2 k = q2
  q3 : pv x3 k = q3
  q4 : ln x4 x5 k = q4
  q5 : fo x0 x1 x2 x3 x4 x5 k = q5
theorem fl6_get (A : List Int) (j : Nat) (h : j < A.length) (h6 : A.length ≤ 6) : (fl6 A A.length).getD j 0 = A.getD j 0 := by
  unfold fl6
  rw [List.take_length]
  exact getD_app_lt _ _ _ h
theorem fl6_get' (A : List Int) (c j : Nat) (hc : A.length = c) (h : j < c) (h6 : c ≤ 6) : (fl6 A c).getD j 0 = A.getD j 0 := by
  subst hc; exact fl6_get A j h h6

set_option maxRecDepth 100000 in
set_option maxHeartbeats 8000000 in
theorem core3 (w : World) (a0 a1 a2 a3 a4 a5 : Option Addr) (l0 c0 l1 c1 l2 c2 l3 c3 l4 c4 l5 c5 : Nat) (x0 x1 x2 x3 x4 : List Int) (x5 : List Bool)
    (r0 : I32s w (.slice a0 l0 c0) x0) (r1 : I32s w (.slice a1 l1 c1) x1) (r2 : I32s w (.slice a2 l2 c2) x2) (r3 : I32s w (.slice a3 l3 c3) x3) (r4 : I32s w (.slice a4 l4 c4) x4) (r5 : Bls w (.slice a5 l5 c5) x5)
    (n0 : x0.length = l0) (n1 : x1.length = l1) (n2 : x2.length = l2) (n3 : x3.length = l3) (n4 : x4.length = l4) (n5 : x5.length = l5)
    (A0 : A32 x0) (A1 : A32 x1) (A2 : A32 x2) (A3 : A32 x3) (A4 : A32 x4)
    (h0 : l0 ≤ maxLen) (h1 : l1 ≤ maxLen) (h2 : l2 ≤ maxLen) (h3 : l3 ≤ maxLen) (h4 : l4 ≤ maxLen) (h5 : l5 ≤ maxLen) (hT : Lib.TabSlice 0 .u8 b64 w) :
    Calls Tryd.prog 3 #[.slice a0 l0 c0, .slice a1 l1 c1, .slice a2 l2 c2, .slice a3 l3 c3, .slice a4 l4 c4, .slice a5 l5 c5] w fun e w' => e = .returned (.bool true) ∧ Below w.heap.size w w' := by
  obtain ⟨R, oo, cc, hTab⟩ := tab_in hT
  have HZ := Lib.hid (zb5 w a0 a1 a2 a3 a4 a5 l0 c0 l1 c1 l2 c2 l3 c3 l4 c4 l5 c5 h0 h1 h2 h3 h4 h5)
  unfold maxLen at h0 h1 h2 h3 h4 h5
  have HTab := Lib.hid (TabB.of hTab)
  have HR := Lib.hid (And.intro r0 (And.intro r1 (And.intro r2 (And.intro r3 (And.intro r4 r5)))))
  have HN := Lib.hid (And.intro n0 (And.intro n1 (And.intro n2 (And.intro n3 (And.intro n4 n5)))))
  have HA := Lib.hid (And.intro A0 (And.intro A1 (And.intro A2 (And.intro A3 A4))))
  clear hT hTab r0 r1 r2 r3 r4 r5 n0 n1 n2 n3 n4 n5 A0 A1 A2 A3 A4
  go_enter Tryd.func3, Tryd.ntmps3
  go_wp2_with fail
  refine (HZ.out).mono ?_
  rintro e w1 ⟨⟨r, rfl, hr⟩, hw⟩
  subst hw
  cases r
  · dsimp only
    go_wp2_with fail
    go_ret
    exact ⟨rfl, Below.refl _ _⟩
  have hsum := hr rfl
  clear hr HZ
  dsimp only
  by_cases hbig : 1048576 < 4 * (l0 + l1 + l2 + l3 + l4) + l5
  · go_wp2_with fail
    go_ret
    exact ⟨rfl, Below.refl _ _⟩
  go_wp2_with (go_at_call 6; go_in)
  refine (cl7 w1 a0 l0 c0 x0 (HR.out.1) (by omega)).mono ?_
  rintro e w2 ⟨p0, rfl, rr, bb⟩
  have HQ0 := Lib.hid rr
  have HB1 := Lib.hid (show Below w1.heap.size w1 w2 from bb)
  have HC1 := Lib.hid bb
  clear rr bb
  dsimp only
  go_wp2_with fail
  refine (cl7 w2 a1 l1 c1 x1 (HR.out.2.1.keep (show Below w1.heap.size w1 w2 from HB1.out)) (by omega)).mono ?_
  rintro e w3 ⟨p1, rfl, rr, bb⟩
  have HQ1 := Lib.hid rr
  have HB2 := Lib.hid (show Below w1.heap.size w1 w3 from HB1.out.trans (bb.mono HB1.out.size))
  have HC2 := Lib.hid bb
  clear rr bb
  dsimp only
  go_wp2_with fail
  refine (cl7 w3 a2 l2 c2 x2 (HR.out.2.2.1.keep (show Below w1.heap.size w1 w3 from HB2.out)) (by omega)).mono ?_
  rintro e w4 ⟨p2, rfl, rr, bb⟩
  have HQ2 := Lib.hid rr
  have HB3 := Lib.hid (show Below w1.heap.size w1 w4 from HB2.out.trans (bb.mono HB2.out.size))
  have HC3 := Lib.hid bb
  clear rr bb
  dsimp only
  go_wp2_with fail
  refine (cl7 w4 a3 l3 c3 x3 (HR.out.2.2.2.1.keep (show Below w1.heap.size w1 w4 from HB3.out)) (by omega)).mono ?_
  rintro e w5 ⟨p3, rfl, rr, bb⟩
  have HQ3 := Lib.hid rr
  have HB4 := Lib.hid (show Below w1.heap.size w1 w5 from HB3.out.trans (bb.mono HB3.out.size))
  have HC4 := Lib.hid bb
  clear rr bb
  dsimp only
  go_wp2_with fail
  refine (cl7 w5 a4 l4 c4 x4 (HR.out.2.2.2.2.1.keep (show Below w1.heap.size w1 w5 from HB4.out)) (by omega)).mono ?_
  rintro e w6 ⟨p4, rfl, rr, bb⟩
  have HQ4 := Lib.hid rr
  have HB5 := Lib.hid (show Below w1.heap.size w1 w6 from HB4.out.trans (bb.mono HB4.out.size))
  have HC5 := Lib.hid bb
  clear rr bb
  dsimp only
  go_wp2_with fail
  refine (cl8 w6 a5 l5 c5 x5 (HR.out.2.2.2.2.2.keep (show Below w1.heap.size w1 w6 from HB5.out)) (by omega)).mono ?_
  rintro e w7 ⟨p5, rfl, rr, bb⟩
  have HQ5 := Lib.hid rr
  have HB6 := Lib.hid (show Below w1.heap.size w1 w7 from HB5.out.trans (bb.mono HB5.out.size))
  have HC6 := Lib.hid bb
  clear rr bb
  dsimp only
  go_wp2_with fail
  have HX := Lib.hid (show Six w7 (.slice p0 l0 l0) (.slice p1 l1 l1) (.slice p2 l2 l2) (.slice p3 l3 l3) (.slice p4 l4 l4) (.slice p5 l5 l5) x0 x1 x2 x3 x4 x5 by
    obtain ⟨m0, m1, m2, m3, m4, m5⟩ := HN.out
    obtain ⟨B0, B1, B2, B3, B4⟩ := HA.out
    exact ⟨((((HQ0.out.keep HC2.out).keep HC3.out).keep HC4.out).keep HC5.out).keep HC6.out, (((HQ1.out.keep HC3.out).keep HC4.out).keep HC5.out).keep HC6.out, ((HQ2.out.keep HC4.out).keep HC5.out).keep HC6.out, (HQ3.out.keep HC5.out).keep HC6.out, HQ4.out.keep HC6.out, HQ5.out, B0, B1, B2, B3, B4, by omega, by omega, by omega, by omega, by omega, by omega⟩)
  have HT7 := Lib.hid ((HTab.out.below HB6.out).mono HB6.out.size)
  clear HQ0 HQ1 HQ2 HQ3 HQ4 HQ5 HB1 HB2 HB3 HB4 HB5 HC1 HC2 HC3 HC4 HC5 HC6 HR HTab
  refine (nb9 w7).mono ?_
  rintro e w8 ⟨K, m, rfl, hbd, hlo, hb8⟩
  have HBT0 := Lib.hid (BT.start (g := x0) (s := x1) (l := x2) (o := x3) (n := x4) (b := x5) hbd hb8 hlo)
  clear hbd hlo hb8
  dsimp only
  go_wp2_with fail
  go_loopw [15] (fun v15 wr => ∃ (k : Nat) (v : Value), v15 = .int .i64 k ∧ k ≤ l0 ∧ Hid (BT w7 wr K x0 x1 x2 x3 x4 x5 k v)) (fun v15 _ => l0 - (intOf v15).toNat)
  case atStart => exact ⟨0, _, rfl, Nat.zero_le _, HBT0⟩
  case round =>
    obtain ⟨k, v, rfl, hk, HB⟩ := hrel
    by_cases hkl : k < l0
    · obtain ⟨y0, f0⟩ : ∃ y, x0.getD k 0 = y := ⟨_, rfl⟩
      obtain ⟨y1, f1⟩ : ∃ y, x1.getD k 0 = y := ⟨_, rfl⟩
      obtain ⟨y2, f2⟩ : ∃ y, x2.getD k 0 = y := ⟨_, rfl⟩
      obtain ⟨y3, f3⟩ : ∃ y, x3.getD k 0 = y := ⟨_, rfl⟩
      obtain ⟨y4, f4⟩ : ∃ y, x4.getD k 0 = y := ⟨_, rfl⟩
      obtain ⟨y5, f5⟩ : ∃ y, x5.getD k false = y := ⟨_, rfl⟩
      have HS := Lib.hid (st11 wr (.slice p0 l0 l0) (.slice p1 l1 l1) (.slice p2 l2 l2) (.slice p3 l3 l3) (.slice p4 l4 l4) (.slice p5 l5 l5) x0 x1 x2 x3 x4 x5 k (HX.out.keep HB.out.be) (by omega))
      have HP := Lib.hid (fun (W : World) (hW : Below wr.heap.size wr W) => (HB.out.keep hW).step HT7.out HA.out.1 HA.out.2.1 HA.out.2.2.1 HA.out.2.2.2.1 HA.out.2.2.2.2 (by omega))
      rw [f0, f1, f2, f3, f4, f5] at HS HP
      clear f0 f1 f2 f3 f4 f5
      go_wp2_with fail
      refine (HS.out).mono ?_
      rintro e wa ⟨rfl, hba⟩
      dsimp only
      go_wp2_with fail
      refine (HP.out wa hba).mono ?_
      rintro e wb ⟨rfl, v', hbt⟩
      have HBN := Lib.hid hbt
      clear hba hbt
      dsimp only
      go_wp2_with fail
      go_roundw
      case rel => exact ⟨k + 1, v', by simp, by omega, HBN⟩
      case measure => simp only [intOf]; omega
    · obtain rfl : k = l0 := by omega
      obtain ⟨ww, rfl⟩ : ∃ x, x = wr := ⟨_, rfl⟩
      obtain ⟨mm, hbd⟩ := HB.out.bd
      have HBD := Lib.hid hbd
      have HSM := Lib.hid (sm12 hbd HB.out.own)
      obtain ⟨pb, cb, hv, _, _⟩ := HB.out.own.bytes
      have hbl := bf_len (g := x0) (s := x1) (l := x2) (o := x3) (n := x4) (b := x5) k
      obtain ⟨L, hL⟩ : ∃ L, (bf x0 x1 x2 x3 x4 x5 k).length = L := ⟨_, rfl⟩
      rw [hL] at hv hbl
      subst hv
      have HL := Lib.hid hL
      have HBY := Lib.hid (show Bytes ww (.slice pb L cb) (bf x0 x1 x2 x3 x4 x5 k) from HB.out.own.bytes)
      have HXW := Lib.hid (HX.out.keep HB.out.be)
      clear hL hbd hkl
      go_wp2_with fail
      refine (HSM.out).mono ?_
      rintro e wz ⟨rfl, hwz⟩
      have hwz' := hwz.symm
      subst hwz'
      dsimp only
      go_wp2_with fail
      go_loopw [17, 18, 19, 20, 21, 22, 23, 24] (fun v17 v18 v19 v20 v21 v22 v23 v24 wx => ∃ (j p : Nat) (q0 q1 q2 q3 q4 q5 : Int), v17 = .int .i64 p ∧ v18 = .int .i64 q0 ∧ v19 = .int .i64 q1 ∧ v20 = .int .i64 q2 ∧ v21 = .int .i64 q3 ∧ v22 = .int .i64 q4 ∧ v23 = .int .i64 q5 ∧ v24 = .int .i64 j ∧ j ≤ k ∧ Hid (RD x0 x1 x2 x3 x4 x5 j p q0 q1 q2 q3 q4 q5) ∧ Hid (Below ww.heap.size ww wx)) (fun _ _ _ _ _ _ _ v24 _ => k - (intOf v24).toNat)
      case atStart => exact ⟨0, 0, 0, 0, 0, 0, 0, -1, rfl, rfl, rfl, rfl, rfl, rfl, rfl, rfl, Nat.zero_le _, Lib.hid ⟨rfl, rfl, rfl, rfl, rfl, rfl, rfl⟩, Lib.hid (Below.refl _ _)⟩
      case round =>
        obtain ⟨j, p, q0, q1, q2, q3, q4, q5, rfl, rfl, rfl, rfl, rfl, rfl, rfl, rfl, hj, HRD, HBE⟩ := hrel
        by_cases hjk : j < k
        · obtain ⟨P, hSg, hEnd, hP4, h44⟩ := bf_at (b := x5) HA.out.1 HA.out.2.1 HA.out.2.2.1 HA.out.2.2.2.1 HA.out.2.2.2.2 j k hjk
          obtain ⟨E, hE⟩ : ∃ E, (bf x0 x1 x2 x3 x4 x5 (j + 1)).length = E := ⟨_, rfl⟩
          rw [HRD.out.p] at hSg hEnd h44
          rw [hE] at hSg hEnd
          obtain ⟨p', hp'⟩ : ∃ q, p + (sep j).length = q := ⟨_, rfl⟩
          rw [hp'] at hSg hEnd
          have hpL : p ≤ L := by rw [← HL.out]; have := hEnd.1; have := hEnd.2.1; omega
          have HSg := Lib.hid hSg; have HEnd := Lib.hid hEnd; have HP4 := Lib.hid hP4; have H44 := Lib.hid h44; have HE := Lib.hid hE; have Hp' := Lib.hid hp'
          clear hSg hEnd hP4 h44 hE hp'
          go_upto_if 100 with fail
          go_cut [17] (fun v17 wx => v17 = .int .i64 p' ∧ wr = wx)
          case first =>
            by_cases hj0 : j = 0
            · subst hj0
              have HQ := Lib.hid (show p = p' from Hp'.out)
              go_wp2_with fail
              go_meet
              exact ⟨by rw [HQ.out], rfl⟩
            · obtain ⟨hlt, h44⟩ := H44.out (by omega)
              rw [HL.out] at hlt
              obtain ⟨_, _, hv, _, hi⟩ := HBY.out
              obtain ⟨a, ha, hc⟩ := hi p (by rw [HL.out]; exact hlt)
              rw [h44] at hc
              have hvp : pb = some a := by
                injection hv with hv1 hv2 hv3
                rw [hv1]; exact ha
              subst hvp
              have hc2 : wr.cell? (a.add p) = some (.int .u8 44) := by rw [HBE.out.cell (block_lt_of_cell hc)]; exact hc
              have HQ := Lib.hid (show p + 1 = p' by have := Hp'.out; unfold sep at this; rw [if_neg hj0] at this; exact this)
              have hj1 : 0 < j := by omega
              clear hi hc h44 hv ha hj0
              go_wp2_with fail
              go_meet
              exact ⟨by rw [← HQ.out]; simp, rfl⟩
          case rest =>
            obtain ⟨rfl, rfl⟩ := hcut
            obtain ⟨y0, f0⟩ : ∃ y, x0.getD j 0 = y := ⟨_, rfl⟩
            obtain ⟨y1, f1⟩ : ∃ y, x1.getD j 0 = y := ⟨_, rfl⟩
            obtain ⟨y2, f2⟩ : ∃ y, x2.getD j 0 = y := ⟨_, rfl⟩
            obtain ⟨y3, f3⟩ : ∃ y, x3.getD j 0 = y := ⟨_, rfl⟩
            obtain ⟨y4, f4⟩ : ∃ y, x4.getD j 0 = y := ⟨_, rfl⟩
            have hin0 := in33_sub HA.out.1 j; have hin1 := in33_sub HA.out.2.1 j; have hin2 := in33_sub HA.out.2.2.1 j; have hin3 := in33_sub HA.out.2.2.2.1 j; have hin4 := in33_ln (b := x5) HA.out.2.2.2.2 j
            rw [f0, HRD.out.q0] at hin0; rw [f1, HRD.out.q1] at hin1; rw [f2, HRD.out.q2] at hin2; rw [f3, HRD.out.q3] at hin3; rw [f4, HRD.out.q4] at hin4
            obtain ⟨D0, d0⟩ : ∃ y, y0 - q0 = y := ⟨_, rfl⟩
            obtain ⟨D1, d1⟩ : ∃ y, y1 - q1 = y := ⟨_, rfl⟩
            obtain ⟨D2, d2⟩ : ∃ y, y2 - q2 = y := ⟨_, rfl⟩
            obtain ⟨D3, d3⟩ : ∃ y, y3 - q3 = y := ⟨_, rfl⟩
            obtain ⟨D4, d4⟩ : ∃ y, y4 - q4 = y := ⟨_, rfl⟩
            rw [d0] at hin0; rw [d1] at hin1; rw [d2] at hin2; rw [d3] at hin3; rw [d4] at hin4
            unfold In33 at hin0 hin1 hin2 hin3 hin4
            have HW := Lib.hid (show IntKind.i64.wrap (y0 - q0) = D0 ∧ IntKind.i64.wrap (y1 - q1) = D1 ∧ IntKind.i64.wrap (y2 - q2) = D2 ∧ IntKind.i64.wrap (y3 - q3) = D3 ∧ IntKind.i64.wrap (y4 - q4) = D4 by
              rw [d0, d1, d2, d3, d4]
              exact ⟨IntWalk.i64_in _ (by omega), IntWalk.i64_in _ (by omega), IntWalk.i64_in _ (by omega), IntWalk.i64_in _ (by omega), IntWalk.i64_in _ (by omega)⟩)
            have HDL := Lib.hid (show dl x0 x1 x2 x3 x4 x5 j = [D0, D1, D2, D3] ++ (if x5.getD j false = true then [D4] else []) by
              unfold dl Go.Proofs.YtlplikpjnocdfaaDoor.d4
              rw [f0, f1, f2, f3, f4, HRD.out.q0, HRD.out.q1, HRD.out.q2, HRD.out.q3, HRD.out.q4, d0, d1, d2, d3, d4])
            have HSX := Lib.hid (HXW.out.keep HBE.out)
            have HG := Lib.hid (show ∀ W, Below wr.heap.size wr W → ∀ v y, R5 (.slice p0 k k) (.slice p1 l1 l1) (.slice p2 l2 l2) (.slice p3 l3 l3) (.slice p4 l4 l4) y0 y1 y2 y3 y4 v y → Calls Tryd.prog 15 #[v, .int .i64 j] W fun e w' => e = .returned (.int .i64 y) ∧ w' = W by
              intro W hW v y hr
              have hx := HSX.out.keep hW
              cases hr
              · rw [← f0]; exact at15v W _ x0 j hx.r0 hx.a0 hx.l0 (by omega)
              · rw [← f1]; exact at15v W _ x1 j hx.r1 hx.a1 hx.l1 (by omega)
              · rw [← f2]; exact at15v W _ x2 j hx.r2 hx.a2 hx.l2 (by omega)
              · rw [← f3]; exact at15v W _ x3 j hx.r3 hx.a3 hx.l3 (by omega)
              · rw [← f4]; exact at15v W _ x4 j hx.r4 hx.a4 hx.l4 (by omega))
            have HY := Lib.hid (show ∀ q, (x5.getD j false = true ∧ q = (if q5 < 0 then ((P 4 : Nat) : Int) else q5) → RD x0 x1 x2 x3 x4 x5 (j + 1) E y0 y1 y2 y3 y4 q) by
              rintro q ⟨hb, rfl⟩
              refine ⟨HE.out, (pv_succ _ _).trans f0, (pv_succ _ _).trans f1, (pv_succ _ _).trans f2, (pv_succ _ _).trans f3, ?_, ?_⟩
              · rw [ln, if_pos hb]; exact f4
              · rw [fo, HRD.out.q5, HP4.out]
                by_cases hq : q5 < 0
                · rw [if_pos ⟨hb, hq⟩, if_pos hq]
                · rw [if_neg (fun h => hq h.2), if_neg hq])
            have HYN := Lib.hid (show x5.getD j false = false → RD x0 x1 x2 x3 x4 x5 (j + 1) E y0 y1 y2 y3 q4 q5 by
              intro hb
              refine ⟨HE.out, (pv_succ _ _).trans f0, (pv_succ _ _).trans f1, (pv_succ _ _).trans f2, (pv_succ _ _).trans f3, ?_, ?_⟩
              · rw [ln, hb, if_neg (by simp)]; exact HRD.out.q4
              · rw [fo, hb, if_neg (by simp)]; exact HRD.out.q5)
            have HS13 := Lib.hid (sp13 wr (.slice pb L cb) (bf x0 x1 x2 x3 x4 x5 k) p' E (HBY.out.keep HBE.out) (by rw [HL.out]; omega) HEnd.out)
            have HD14 := Lib.hid (ds14 wr (.slice pb L cb) (bf x0 x1 x2 x3 x4 x5 k) (dl x0 x1 x2 x3 x4 x5 j) p' E P (HBY.out.keep HBE.out) (by rw [HL.out]; omega) HSg.out)
            clear f0 f1 f2 f3 f4 d0 d1 d2 d3 d4 hin0 hin1 hin2 hin3 hin4
            obtain ⟨F, hF⟩ : ∃ F, P 4 = F := ⟨_, rfl⟩
            rw [hF] at HY
            have hFb : F ≤ L := by
              have h1 := HSg.out.le; have h2 := HSg.out.fits
              have h3 := dl_len (g := x0) (s := x1) (l := x2) (o := x3) (n := x4) (b := x5) j
              rw [HL.out] at h2
              have := h1 4 (by rw [h3]; split <;> omega)
              rw [hF] at this
              omega
            by_cases hb : x5.getD j false = true
            · rw [HDL.out] at HD14
              rw [if_pos hb] at HD14
              have EA := Lib.hid (show arr6 (fl6 ([D0, D1, D2, D3] ++ [D4] : List Int) 5) = .agg #[.int .i64 D0, .int .i64 D1, .int .i64 D2, .int .i64 D3, .int .i64 D4, .int .i64 0] from rfl)
              obtain ⟨S0, hS0⟩ : ∃ S : List Int, fl6 (sts 5 P) 5 = S := ⟨_, rfl⟩
              obtain ⟨s0, g0⟩ : ∃ y, S0.getD 0 0 = y := ⟨_, rfl⟩
              obtain ⟨s1, g1⟩ : ∃ y, S0.getD 1 0 = y := ⟨_, rfl⟩
              obtain ⟨s2, g2⟩ : ∃ y, S0.getD 2 0 = y := ⟨_, rfl⟩
              obtain ⟨s3, g3⟩ : ∃ y, S0.getD 3 0 = y := ⟨_, rfl⟩
              obtain ⟨s4, g4⟩ : ∃ y, S0.getD 4 0 = y := ⟨_, rfl⟩
              obtain ⟨s5, g5⟩ : ∃ y, S0.getD 5 0 = y := ⟨_, rfl⟩
              have EB := Lib.hid (show arr6 (fl6 (sts 5 P) 5) = .agg #[.int .i64 s0, .int .i64 s1, .int .i64 s2, .int .i64 s3, .int .i64 s4, .int .i64 s5] by unfold arr6; rw [hS0, g0, g1, g2, g3, g4, g5])
              have hs4 : s4 = (F : Int) := by rw [← g4, ← hS0, ← hF]; exact (fl6_get' (sts 5 P) 5 4 (sts_len _ _) (by omega) (by omega)).trans (sts_get 5 P 4 (by omega))
              rw [show ([D0, D1, D2, D3] ++ [D4] : List Int).length = 5 from rfl, EA.out, EB.out] at HD14
              clear EA EB hS0 g0 g1 g2 g3 g4 g5
              go_wp2_with (go_at_call 13; refine (HS13.out).mono ?_; rintro e w1 ⟨rfl, hww⟩; have hww' := hww.symm; subst hww')
              refine (HD14.out).mono ?_
              rintro e wy ⟨rfl, hby⟩
              dsimp only
              go_wp2_with fail
              obtain ⟨Wz, hWz⟩ : ∃ x, ((wy.alloc (Obj.cells #[.int .i64 D0, .int .i64 D1, .int .i64 D2, .int .i64 D3, .int .i64 D4, .int .i64 0] 37)).alloc (Obj.cells #[.int .i64 s0, .int .i64 s1, .int .i64 s2, .int .i64 s3, .int .i64 (F : Int), .int .i64 s5] 37)) = x := ⟨_, rfl⟩
              rw [hWz]
              have hbz : Below wy.heap.size wy Wz := by rw [← hWz]; exact ((Below.refl _ _).alloc (Nat.le_refl _) _).alloc (by simp) _
              have hA : Wz.heap[wy.heap.size]? = some (Obj.cells #[.int .i64 D0, .int .i64 D1, .int .i64 D2, .int .i64 D3, .int .i64 D4, .int .i64 0] 37 (0, 0)) := by
                rw [← hWz, heap_alloc_old _ _ (by simp)]; exact heap_alloc_new wy (Obj.cells #[.int .i64 D0, .int .i64 D1, .int .i64 D2, .int .i64 D3, .int .i64 D4, .int .i64 0] 37)
              have hB : Wz.heap[wy.heap.size + 1]? = some (Obj.cells #[.int .i64 s0, .int .i64 s1, .int .i64 s2, .int .i64 s3, .int .i64 (F : Int), .int .i64 s5] 37 (0, 0)) := by
                rw [← hWz]
                have := heap_alloc_new (wy.alloc (Obj.cells #[.int .i64 D0, .int .i64 D1, .int .i64 D2, .int .i64 D3, .int .i64 D4, .int .i64 0] 37)) (Obj.cells #[.int .i64 s0, .int .i64 s1, .int .i64 s2, .int .i64 s3, .int .i64 (F : Int), .int .i64 s5] 37)
                rw [show (wy.alloc (Obj.cells #[.int .i64 D0, .int .i64 D1, .int .i64 D2, .int .i64 D3, .int .i64 D4, .int .i64 0] 37)).heap.size = wy.heap.size + 1 by simp] at this
                exact this
              have HBz := Lib.hid (show Below wr.heap.size wr Wz from hby.trans (hbz.mono hby.size))
              have HBN := Lib.hid (show ∀ n, Below wr.heap.size wr (Wz.drewN n) from fun n => HBz.out.trans ((below_drewN _ _).mono HBz.out.size))
              have HBN2 := Lib.hid (show ∀ n n', Below wr.heap.size wr ((Wz.drewN n).drewN n') from fun n n' => (HBN.out n).trans ((below_drewN _ _).mono (HBN.out n).size))
              have t0 : Wz.cell? ⟨wy.heap.size, 0, none⟩ = some (.int .i64 D0) := by simp only [World.cell?, hA]; rfl
              have t1 : Wz.cell? ⟨wy.heap.size, 1, none⟩ = some (.int .i64 D1) := by simp only [World.cell?, hA]; rfl
              have t2 : Wz.cell? ⟨wy.heap.size, 2, none⟩ = some (.int .i64 D2) := by simp only [World.cell?, hA]; rfl
              have t3 : Wz.cell? ⟨wy.heap.size, 3, none⟩ = some (.int .i64 D3) := by simp only [World.cell?, hA]; rfl
              have t4 : Wz.cell? ⟨wy.heap.size, 4, none⟩ = some (.int .i64 D4) := by simp only [World.cell?, hA]; rfl
              have t5 : Wz.cell? ⟨wy.heap.size + 1, 4, none⟩ = some (.int .i64 (F : Int)) := by simp only [World.cell?, hB]; rfl
              obtain ⟨hw0, hw1, hw2, hw3, hw4⟩ := HW.out
              have HK := Lib.hid (HSX.out.keep HBz.out).r5
              have HN5 := Lib.hid HN.out.2.2.2.2.2
              clear hWz hA hB hby hbz hs4
              go_quiet ((go_at_call 15; refine Calls.quiet_of_same (HG.out _ (HBN.out _) _ _ (by constructor))))
              clear hw0 hw1 hw2 hw3 t0 t1 t2 t3
              obtain ⟨_, _, hv5, _, hi5⟩ := HK.out
              have hlt : j < x5.length := by
                by_cases h : j < x5.length
                · exact h
                · simp [List.getD, show x5.length ≤ j by omega] at hb
              obtain ⟨a, ha, hc⟩ := hi5 j hlt
              have hvp : p5 = some a := by
                injection hv5 with hv1 hv2 hv3
                rw [hv1]; exact ha
              subst hvp
              rw [hb] at hc
              rw [HN5.out] at hlt
              clear hi5 hv5 ha
              obtain ⟨Wq, hWq⟩ : ∃ x, Wz.drewN nq = x := ⟨_, rfl⟩
              rw [hWq]
              have HBQ := Lib.hid (show Below wr.heap.size wr Wq by rw [← hWq]; exact HBN.out nq)
              have HBQN := Lib.hid (show ∀ n, Below wr.heap.size wr (Wq.drewN n) from fun n => HBQ.out.trans ((below_drewN Wq n).mono HBQ.out.size))
              have u4 : Wq.cell? ⟨wy.heap.size, 4, none⟩ = some (.int .i64 D4) := by rw [← hWq]; exact t4
              have u5 : Wq.cell? ⟨wy.heap.size + 1, 4, none⟩ = some (.int .i64 (F : Int)) := by rw [← hWq]; exact t5
              have uc : Wq.cell? (a.add j) = some (.bool true) := by rw [← hWq]; exact hc
              clear hWq HBN HBN2 t4 t5 hc
              have HY1 := Lib.hid (fun q (hq : q = (if q5 < 0 then (F : Int) else q5)) => HY.out q ⟨hb, hq⟩)
              clear hb
              go_wp2_with (go_at_call 15; refine (HG.out _ HBQ.out _ _ (by constructor)).mono ?_; rintro e w1 ⟨rfl, hw1⟩; have hw1' := hw1.symm; subst hw1')
              go_quiet ((go_at_call 15; refine Calls.quiet_of_same (HG.out _ (HBQN.out _) _ _ (by constructor))))
              clear hw4 u4
              by_cases hq : q5 < 0
              · have HY2 := Lib.hid (HY1.out (F : Int) (by rw [if_pos hq]))
                go_wp2_with (go_at_call 15; refine (HG.out _ (HBQN.out _) _ _ (by constructor)).mono ?_; rintro e w1 ⟨rfl, rfl⟩)
                go_roundw
                case rel => exact ⟨j + 1, E, y0, y1, y2, y3, y4, F, rfl, rfl, rfl, rfl, rfl, rfl, rfl, by simp, by omega, HY2, Lib.hid (HBE.out.trans ((HBQN.out _).mono HBE.out.size))⟩
                case measure => simp only [intOf]; omega
              · have HY2 := Lib.hid (HY1.out q5 (by rw [if_neg hq]))
                go_wp2_with (go_at_call 15; refine (HG.out _ (HBQN.out _) _ _ (by constructor)).mono ?_; rintro e w1 ⟨rfl, rfl⟩)
                go_roundw
                case rel => exact ⟨j + 1, E, y0, y1, y2, y3, y4, q5, rfl, rfl, rfl, rfl, rfl, rfl, rfl, by simp, by omega, HY2, Lib.hid (HBE.out.trans ((HBQN.out _).mono HBE.out.size))⟩
                case measure => simp only [intOf]; omega
            · rw [HDL.out] at HD14
              rw [if_neg hb] at HD14
              have EA := Lib.hid (show arr6 (fl6 ([D0, D1, D2, D3] ++ [] : List Int) 4) = .agg #[.int .i64 D0, .int .i64 D1, .int .i64 D2, .int .i64 D3, .int .i64 0, .int .i64 0] from rfl)
              obtain ⟨S0, hS0⟩ : ∃ S : List Int, fl6 (sts 4 P) 4 = S := ⟨_, rfl⟩
              obtain ⟨s0, g0⟩ : ∃ y, S0.getD 0 0 = y := ⟨_, rfl⟩
              obtain ⟨s1, g1⟩ : ∃ y, S0.getD 1 0 = y := ⟨_, rfl⟩
              obtain ⟨s2, g2⟩ : ∃ y, S0.getD 2 0 = y := ⟨_, rfl⟩
              obtain ⟨s3, g3⟩ : ∃ y, S0.getD 3 0 = y := ⟨_, rfl⟩
              obtain ⟨s4, g4⟩ : ∃ y, S0.getD 4 0 = y := ⟨_, rfl⟩
              obtain ⟨s5, g5⟩ : ∃ y, S0.getD 5 0 = y := ⟨_, rfl⟩
              have EB := Lib.hid (show arr6 (fl6 (sts 4 P) 4) = .agg #[.int .i64 s0, .int .i64 s1, .int .i64 s2, .int .i64 s3, .int .i64 s4, .int .i64 s5] by unfold arr6; rw [hS0, g0, g1, g2, g3, g4, g5])
              
              rw [show ([D0, D1, D2, D3] ++ [] : List Int).length = 4 from rfl, EA.out, EB.out] at HD14
              clear EA EB hS0 g0 g1 g2 g3 g4 g5
              go_wp2_with (go_at_call 13; refine (HS13.out).mono ?_; rintro e w1 ⟨rfl, hww⟩; have hww' := hww.symm; subst hww')
              refine (HD14.out).mono ?_
              rintro e wy ⟨rfl, hby⟩
              dsimp only
              go_wp2_with fail
              obtain ⟨Wz, hWz⟩ : ∃ x, ((wy.alloc (Obj.cells #[.int .i64 D0, .int .i64 D1, .int .i64 D2, .int .i64 D3, .int .i64 0, .int .i64 0] 37)).alloc (Obj.cells #[.int .i64 s0, .int .i64 s1, .int .i64 s2, .int .i64 s3, .int .i64 s4, .int .i64 s5] 37)) = x := ⟨_, rfl⟩
              rw [hWz]
              have hbz : Below wy.heap.size wy Wz := by rw [← hWz]; exact ((Below.refl _ _).alloc (Nat.le_refl _) _).alloc (by simp) _
              have hA : Wz.heap[wy.heap.size]? = some (Obj.cells #[.int .i64 D0, .int .i64 D1, .int .i64 D2, .int .i64 D3, .int .i64 0, .int .i64 0] 37 (0, 0)) := by
                rw [← hWz, heap_alloc_old _ _ (by simp)]; exact heap_alloc_new wy (Obj.cells #[.int .i64 D0, .int .i64 D1, .int .i64 D2, .int .i64 D3, .int .i64 0, .int .i64 0] 37)
              have hB : Wz.heap[wy.heap.size + 1]? = some (Obj.cells #[.int .i64 s0, .int .i64 s1, .int .i64 s2, .int .i64 s3, .int .i64 s4, .int .i64 s5] 37 (0, 0)) := by
                rw [← hWz]
                have := heap_alloc_new (wy.alloc (Obj.cells #[.int .i64 D0, .int .i64 D1, .int .i64 D2, .int .i64 D3, .int .i64 0, .int .i64 0] 37)) (Obj.cells #[.int .i64 s0, .int .i64 s1, .int .i64 s2, .int .i64 s3, .int .i64 s4, .int .i64 s5] 37)
                rw [show (wy.alloc (Obj.cells #[.int .i64 D0, .int .i64 D1, .int .i64 D2, .int .i64 D3, .int .i64 0, .int .i64 0] 37)).heap.size = wy.heap.size + 1 by simp] at this
                exact this
              have HBz := Lib.hid (show Below wr.heap.size wr Wz from hby.trans (hbz.mono hby.size))
              have HBN := Lib.hid (show ∀ n, Below wr.heap.size wr (Wz.drewN n) from fun n => HBz.out.trans ((below_drewN _ _).mono HBz.out.size))
              have HBN2 := Lib.hid (show ∀ n n', Below wr.heap.size wr ((Wz.drewN n).drewN n') from fun n n' => (HBN.out n).trans ((below_drewN _ _).mono (HBN.out n).size))
              have t0 : Wz.cell? ⟨wy.heap.size, 0, none⟩ = some (.int .i64 D0) := by simp only [World.cell?, hA]; rfl
              have t1 : Wz.cell? ⟨wy.heap.size, 1, none⟩ = some (.int .i64 D1) := by simp only [World.cell?, hA]; rfl
              have t2 : Wz.cell? ⟨wy.heap.size, 2, none⟩ = some (.int .i64 D2) := by simp only [World.cell?, hA]; rfl
              have t3 : Wz.cell? ⟨wy.heap.size, 3, none⟩ = some (.int .i64 D3) := by simp only [World.cell?, hA]; rfl
              have t4 : Wz.cell? ⟨wy.heap.size, 4, none⟩ = some (.int .i64 0) := by simp only [World.cell?, hA]; rfl
              have t5 : Wz.cell? ⟨wy.heap.size + 1, 4, none⟩ = some (.int .i64 s4) := by simp only [World.cell?, hB]; rfl
              obtain ⟨hw0, hw1, hw2, hw3, hw4⟩ := HW.out
              have HK := Lib.hid (HSX.out.keep HBz.out).r5
              have HN5 := Lib.hid HN.out.2.2.2.2.2
              clear hWz hA hB hby hbz
              go_quiet ((go_at_call 15; refine Calls.quiet_of_same (HG.out _ (HBN.out _) _ _ (by constructor))))
              clear hw0 hw1 hw2 hw3 t0 t1 t2 t3
              obtain ⟨_, _, hv5, _, hi5⟩ := HK.out
              clear hw4 t4 t5
              have hb' : x5.getD j false = false := by simpa using hb
              have HY2 := Lib.hid (HYN.out hb')
              by_cases hlt : j < x5.length
              · obtain ⟨a, ha, hc⟩ := hi5 j hlt
                have hvp : p5 = some a := by
                  injection hv5 with hv1 hv2 hv3
                  rw [hv1]; exact ha
                subst hvp
                rw [hb'] at hc
                rw [HN5.out] at hlt
                clear hi5 hv5 ha hb hb'
                go_wp2_with (go_at_call 15; refine (HG.out _ (HBN.out _) _ _ (by constructor)).mono ?_; rintro e w1 ⟨rfl, rfl⟩)
                go_roundw
                case rel => exact ⟨j + 1, E, y0, y1, y2, y3, q4, q5, rfl, rfl, rfl, rfl, rfl, rfl, rfl, by simp, by omega, HY2, Lib.hid (HBE.out.trans ((HBN.out _).mono HBE.out.size))⟩
                case measure => simp only [intOf]; omega
              · rw [HN5.out] at hlt
                clear hi5 hv5 hb hb'
                go_wp2_with (go_at_call 15; refine (HG.out _ (HBN.out _) _ _ (by constructor)).mono ?_; rintro e w1 ⟨rfl, rfl⟩)
                go_roundw
                case rel => exact ⟨j + 1, E, y0, y1, y2, y3, q4, q5, rfl, rfl, rfl, rfl, rfl, rfl, rfl, by simp, by omega, HY2, Lib.hid (HBE.out.trans ((HBN.out _).mono HBE.out.size))⟩
                case measure => simp only [intOf]; omega
        · have hjk' : k = j := by omega
          subst hjk'
          have hpL : L = p := by rw [← HRD.out.p]; exact HL.out.symm
          subst hpL
          have hKl := HB.out.lt
          have HBR := Lib.hid (HBD.out.below (HBE.out.mono hKl))
          rw [HRD.out.q0, HRD.out.q1, HRD.out.q2, HRD.out.q3, HRD.out.q4, HRD.out.q5] at HBR
          obtain ⟨hb, hhb⟩ : ∃ h, hbk x5 k = h := ⟨_, rfl⟩
          rw [hhb] at HBR
          have HTOT := Lib.hid (show Below w1.heap.size w1 wr from (HB6.out.trans (HB.out.be.mono HB6.out.size)).trans (HBE.out.mono (Nat.le_trans HB6.out.size HB.out.be.size)))
          by_cases hk0 : k = 0
          · subst hk0
            have h5 : -1 = q5 := HRD.out.q5
            subst h5
            rw [show fnv (-1) = 0 from rfl, show decide (0 < 0) = false from rfl] at HBR
            have H16 := Lib.hid (hp16 HBR.out)
            have H18 := Lib.hid (fn18 HBR.out)
            rw [if_pos rfl] at H18
            go_wp2_with (go_at_call 16; refine (H16.out).mono ?_; rintro e w2 ⟨rfl, hw2⟩; have hw2' := hw2.symm; subst hw2')
            refine (H18.out).mono ?_
            rintro e w3 ⟨rfl, hb3⟩
            have HFIN := Lib.hid (HTOT.out.trans (hb3.mono HTOT.out.size))
            clear hb3
            dsimp only
            go_wp2_with fail
            go_ret
            exact ⟨rfl, HFIN.out⟩
          · obtain ⟨k', hk'⟩ : ∃ k', k = k' + 1 := ⟨k - 1, by omega⟩
            have hk1 : (k : Int) - 1 = (k' : Int) := by omega
            have hkp : 0 < k := by omega
            rw [show decide (0 < k) = true by simp [hkp]] at HBR
            have HS := Lib.hid (st11 wr (.slice p0 k k) (.slice p1 l1 l1) (.slice p2 l2 l2) (.slice p3 l3 l3) (.slice p4 l4 l4) (.slice p5 l5 l5) x0 x1 x2 x3 x4 x5 k' (HXW.out.keep HBE.out) (by omega))
            obtain ⟨z4, f4⟩ : ∃ y, x4.getD k' 0 = y := ⟨_, rfl⟩
            have g0 := HRD.out.q0; have g1 := HRD.out.q1; have g2 := HRD.out.q2; have g3 := HRD.out.q3
            rw [hk', pv_succ] at g0 g1 g2 g3
            have g5 : x5.getD k' false = hb := by rw [← hhb, hk']; unfold hbk; rw [if_neg (by omega)]; rfl
            rw [g0, g1, g2, g3, f4, g5] at HS
            have H16 := Lib.hid (hp16 HBR.out)
            have H18 := Lib.hid (fun (W : World) (hW : Below wr.heap.size wr W) => fn18 (HBR.out.below (hW.mono (Bd.lt HBR.out))))
            have HF5 := Lib.hid (fo_in (g := x0) (s := x1) (l := x2) (o := x3) (n := x4) (b := x5) k)
            rw [HRD.out.q5] at HF5
            have hkc : k ≤ 1048576 := by omega
            obtain ⟨T, hT⟩ : ∃ T : Value, (if fnv q5 = 0 then .tuple #[.int .u32 0, .bool false] else .tuple #[.int .u32 (flp (fnv q5)), .bool true]) = T := ⟨_, rfl⟩
            rw [hT] at H18
            have HTC := Lib.hid (show (q5 < 0 ∧ T = .tuple #[.int .u32 0, .bool false]) ∨ (∃ F : Nat, q5 = (F : Int) ∧ F ≤ 37748736 ∧ T = .tuple #[.int .u32 (F : Int), .bool true]) by
              have h5 := HF5.out
              by_cases hq : q5 < 0
              · left
                refine ⟨hq, ?_⟩
                rw [← hT, show fnv q5 = 0 by unfold fnv; rw [if_pos hq], if_pos rfl]
              · right
                obtain ⟨F, rfl⟩ := Int.eq_ofNat_of_zero_le (by omega : 0 ≤ q5)
                refine ⟨F, rfl, by omega, ?_⟩
                have e1 : fnv (F : Int) = ((4294967295 - F : Nat) : Int) := by unfold fnv; rw [if_neg hq, flp_nat F (by omega)]
                rw [← hT, e1, if_neg (by omega), flp_nat _ (by omega), show 4294967295 - (4294967295 - F) = F by omega])
            clear hT HF5
            clear g0 g1 g2 g3 f4 g5 hhb hk0 hk'
            go_wp2_with (first | (go_at_call 16; refine (H16.out).mono ?_; rintro e w2 ⟨rfl, hw2⟩; have hw2' := hw2.symm; subst hw2') | (go_at_call 11; refine (HS.out).mono ?_; rintro e wa ⟨rfl, hba⟩; have HBA := Lib.hid hba; have hbs := hba.size; clear hba))
            obtain ⟨WQ, hWQ⟩ : ∃ x, wa.alloc (Obj.cells (stV 0 q0 q1 q2 q3 q4 hb) 32) = x := ⟨_, rfl⟩
            rw [hWQ]
            have hQ : WQ.heap[wa.heap.size]? = some (Obj.cells (stV 0 q0 q1 q2 q3 q4 hb) 32 (0, 0)) := by rw [← hWQ]; exact heap_alloc_new wa (Obj.cells (stV 0 q0 q1 q2 q3 q4 hb) 32)
            have HBQ := Lib.hid (show Below wr.heap.size wr WQ by rw [← hWQ]; exact HBA.out.alloc HBA.out.size _)
            have HBD2 := Lib.hid (show Bd WQ.drew K mm _ _ _ _ _ _ _ _ _ _ _ _ _ from HBR.out.below ((HBQ.out.drew).mono (Bd.lt HBR.out)))
            have HQ := Lib.hid hQ
            obtain ⟨v0, v1, v2, v3, v4, v5, v6⟩ := cells7 hQ
            clear hWQ hQ HS H16
            go_region_with ((go_at_call 17; refine (ps17 HBD2.out).mono ?_; rintro e wp ⟨rfl, hbp⟩; have hz := (hbp.block _ (Array.getElem?_eq_some_iff.1 HQ.out).1).trans HQ.out; obtain ⟨z0, z1, z2, z3, z4, z5, z6⟩ := cells7 hz; have HBP := Lib.hid (show Below wr.heap.size wr wp from (HBQ.out.drew).trans (hbp.mono HBQ.out.size)); clear hbp hz))
            all_goals
              rcases HTC.out with ⟨hq, hTT⟩ | ⟨F, hFq, hFb, hTT⟩
              · subst hTT
                have hd0 : ¬ (0 : Int) ≤ q5 := by omega
                go_wp2_with fail
                refine (H18.out wp HBP.out).mono ?_
                rintro e w3 ⟨rfl, hb3⟩
                have HFIN := Lib.hid (HTOT.out.trans ((HBP.out.trans (hb3.mono HBP.out.size)).mono HTOT.out.size))
                clear hb3
                dsimp only
                go_wp2_with fail
                go_ret
                exact ⟨rfl, HFIN.out⟩
              · subst hTT
                subst hFq
                go_wp2_with fail
                refine (H18.out wp HBP.out).mono ?_
                rintro e w3 ⟨rfl, hb3⟩
                have HFIN := Lib.hid (HTOT.out.trans ((HBP.out.trans (hb3.mono HBP.out.size)).mono HTOT.out.size))
                clear hb3
                dsimp only
                go_wp2_with fail
                go_ret
                exact ⟨rfl, HFIN.out⟩
end Go.Proofs.YtlplikpjnocdfaaDoor
