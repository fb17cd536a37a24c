/-
  tryToDecodeEscapeSequences, a round: two or four digits.
-/
import Derived.Test.YtemneajjdbbgoaaFmtV4
namespace Go.Proofs.YtemneajjdbbgoaaFmt
open Go.ChangeShapes Go.WideShapes Go.ChangeAt Go.RowKit
open Go.Lib (decodeN decode_at decodeGo)
set_option linter.unusedVariables false
set_option maxRecDepth 1000000 in
set_option maxHeartbeats 32000000 in
theorem way_x (g : Nat) (st : Int) (s : ByteArray) (re : Bool) (w : World) (hs : s.size ≤ 1048576) (hst0 : 0 ≤ st) (hst1 : st ≤ 1048576) (HT : Hid (Lib.Utf8Tabs 0 1 w)) (HJ : Hid (∀ (wx : World), Below w.heap.size w wx → wx.cell? ⟨g, 68, none⟩ = some (.int .u8 2))) (xs : List Int) (i0 : TypeInfo) (hin : Tryf.prog.info? 33 = some i0) (hz0 : i0.zero = some (.int .u16 0)) (hz1 : i0.size = 1) (hz2 : i0.bytes = 2) (wr : World) (sl : Value) (i : Nat) (us : Nat → Value) (pre rest' : List Int) (hi : i ≤ s.size) (hpl : pre.length ≤ i) (HS : Hid (St w sl pre wr)) (HTr : Hid (Lib.Utf8Tabs 0 1 wr)) (HN : Hid (NN sl)) (hlt : i < s.size) (nx : Nat) (HC' : Hid (Ch32 s nx rest')) (HJS : Hid (i < nx ∧ nx ≤ s.size)) (I : Nat) (hIs : I ≤ s.size) (C : Nat) (HC65 : Hid (C ≤ 65535)) (HU : Hid (pre ++ ([(C : Int)] ++ rest') = xs)) (h2 : i + 2 ≤ s.size) (hI : i + 1 = I) (hI' : (i : Int) + 1 = (I : Int)) (HD : Hid ((decodeGo (s.extract i s.size)).1 = 92 ∧ (decodeGo (s.extract i s.size)).2 = 1)) (p2 : byt s (i + 1) = 120) (p0 : i + 4 ≤ s.size) (p3 : ∀ k, k < 2 → isHx (byt s (i + 2 + k)) = true) (hCe : C = vj s (i + 2) 2) (hnx : nx = i + 4) (Q : Exit → Act → World → Prop) :
    Code.wp Tryf.prog body18 (Exit.then (fun a' w' => WC18 g st s re w xs a' w' ∧ mu18 s a' w' < mu18 s (fr18 g st s re sl i us) wr) Q) (fr18 g st s re sl i us) wr := by
  conv in body18 => whnf
  unfold fr18
  have HP3 := Lib.hid p3
  have HD1 := Lib.hid (dec_b s I 120 (by omega) (by rw [← hI]; exact p2) (by omega))
  obtain ⟨J, hJ⟩ : ∃ J, I + 1 = J := ⟨_, rfl⟩
  have hJ' : (I : Int) + 1 = (J : Int) := by omega
  have hJs : J ≤ s.size := by omega
  have HJI := Lib.hid (show J = i + 2 by omega)
  clear p2 p3 hI
  go_wp2_with fail
  refine (dec37 _ wr HTr.out 92 1 HD.out.1 HD.out.2).mono ?_
  rintro e w1 ⟨rfl, be1⟩
  have HS1 := Lib.hid (HS.out.next be1); have HT1 := Lib.hid (tabs_below HTr.out be1)
  clear be1
  dsimp only
  go_wp2_with fail
  refine (dec37 _ w1 HT1.out 120 1 HD1.out.1 HD1.out.2).mono ?_
  rintro e w2 ⟨rfl, be2⟩
  have HS2 := Lib.hid (HS1.out.next be2); have HT2 := Lib.hid (tabs_below HT1.out be2)
  clear be2
  dsimp only
  have j68 := HJ.out w2 HS2.out.2
  go_wp2_with fail
  refine wp_loop (WX18 g st s re w i sl pre) muX ?startx ?roundx
  case startx =>
    exact WX18.intro J 0 0 ⟨by omega, HS2, by have := HJI.out; omega, rfl⟩ (by kernel_rfl)
  case roundx =>
    clear j68 hJ hJ' hJs
    rintro a wq ⟨pos, V, j, us2, hrelj, rfl⟩
    obtain ⟨hj2, HSq, hpos, hV⟩ := hrelj
    have HPQ := Lib.hid hpos; have HTq := Lib.hid (tabs_below HT.out HSq.out.2)
    unfold fr18X
    by_cases hj : j < 2
    · obtain ⟨D, hD⟩ : ∃ D, byt s (i + 2 + j) = D := ⟨_, rfl⟩
      have hDx : isHx D = true := by rw [← hD]; exact HP3.out j hj
      have hD103 := isHx_lt _ hDx
      have hxl := hx_lt D hDx
      have hps : pos < s.size := by omega
      have HDn := Lib.hid (dec_b s pos D hps (by rw [hpos]; exact hD) (by omega))
      have hVle : vj s (i + 2) j ≤ 4095 := by
        rcases (show j = 0 ∨ j = 1 by omega) with rfl | rfl
        · simp [vj]
        · have := hx_lt _ (HP3.out 0 (by omega)); simp only [vj]; omega
      obtain ⟨V', hV'⟩ : ∃ V' : Int, ((vj s (i + 2) (j + 1) : Nat) : Int) = V' := ⟨_, rfl⟩
      have o : bits .or .i32 (V * 16) (hx D : Int) = V' := by
        rw [hV, or_hex _ _ (by omega) hxl, ← hV', ← hD]; rfl
      have hVa : 0 ≤ V := by omega
      have hVb : V ≤ 4095 := by omega
      obtain ⟨JJ, hJJ⟩ : ∃ JJ, j + 1 = JJ := ⟨_, rfl⟩
      have hJJ' : (j : Int) + 1 = (JJ : Int) := by omega
      have HV' := Lib.hid hV'
      obtain ⟨POS, hPOS⟩ : ∃ POS, pos + 1 = POS := ⟨_, rfl⟩
      have hPOS' : (pos : Int) + 1 = (POS : Int) := by omega
      clear hD hVle hV hV' hpos hxl
      go_wp2_with fail
      refine (dec37 _ wq HTq.out D 1 HDn.out.1 HDn.out.2).mono ?_
      rintro e w3 ⟨rfl, be3⟩
      have HS3 := Lib.hid (HSq.out.next be3); have HT3 := Lib.hid (tabs_below HTq.out be3)
      clear be3
      dsimp only
      have hcs := hx_class D hDx
      clear hDx
      rcases hcs with hcs | hcs | hcs
      · obtain ⟨c1, c2, hX⟩ := hcs
        rw [hX] at o
        have o2 : bits .or .i32 (V * 16) ((D : Int) - 48) = V' := by first | exact o | (rw [← o]; congr 1; omega)
        have HO2 := Lib.hid o2; have HC := Lib.hid (And.intro c1 c2)
        clear o o2 hX c1 c2
        go_upto_if 282 with fail
        go_cut [282] from 282 to 292 (fun v wx => v = .bool true ∧ wx = w3)
        case first =>
          rcases (show D = 48 ∨ D = 49 ∨ D = 50 ∨ D = 51 ∨ D = 52 ∨ D = 53 ∨ D = 54 ∨ D = 55 ∨ D = 56 ∨ D = 57 by have := HC.out; omega) with rfl | rfl | rfl | rfl | rfl | rfl | rfl | rfl | rfl | rfl
          all_goals
            go_wp2_with fail
            go_meet
            exact ⟨rfl, rfl⟩
        case rest =>
          obtain ⟨rfl, rfl⟩ := hcut
          have o := HO2.out
          have c1 := HC.out.1
          have c2 := HC.out.2
          go_wp2_with fail
          refine ⟨WX18.intro POS V' JJ ⟨by omega, HS3, by have := HPQ.out; omega, by rw [← hJJ]; exact HV'.out.symm⟩ (by kernel_rfl), ?_⟩
          simp [muX, intOf]; omega
      · obtain ⟨c1, c2, hX⟩ := hcs
        rw [hX] at o
        have o2 : bits .or .i32 (V * 16) ((D : Int) + 10 - 97) = V' := by first | exact o | (rw [← o]; congr 1; omega)
        have HO2 := Lib.hid o2; have HC := Lib.hid (And.intro c1 c2)
        have n48 := ne_b D 48 (by omega)
        have n49 := ne_b D 49 (by omega)
        have n50 := ne_b D 50 (by omega)
        have n51 := ne_b D 51 (by omega)
        have n52 := ne_b D 52 (by omega)
        have n53 := ne_b D 53 (by omega)
        have n54 := ne_b D 54 (by omega)
        have n55 := ne_b D 55 (by omega)
        have n56 := ne_b D 56 (by omega)
        have n57 := ne_b D 57 (by omega)
        clear o o2 hX c1 c2
        go_upto_if 298 with fail
        go_cut [298] from 298 to 304 (fun v wx => v = .bool true ∧ wx = w3)
        case first =>
          rcases (show D = 97 ∨ D = 98 ∨ D = 99 ∨ D = 100 ∨ D = 101 ∨ D = 102 by have := HC.out; omega) with rfl | rfl | rfl | rfl | rfl | rfl
          all_goals
            go_wp2_with fail
            go_meet
            exact ⟨rfl, rfl⟩
        case rest =>
          obtain ⟨rfl, rfl⟩ := hcut
          have o := HO2.out
          have c1 := HC.out.1
          have c2 := HC.out.2
          go_wp2_with fail
          refine ⟨WX18.intro POS V' JJ ⟨by omega, HS3, by have := HPQ.out; omega, by rw [← hJJ]; exact HV'.out.symm⟩ (by kernel_rfl), ?_⟩
          simp [muX, intOf]; omega
      · obtain ⟨c1, c2, hX⟩ := hcs
        rw [hX] at o
        have o2 : bits .or .i32 (V * 16) ((D : Int) + 10 - 65) = V' := by first | exact o | (rw [← o]; congr 1; omega)
        have HO2 := Lib.hid o2; have HC := Lib.hid (And.intro c1 c2)
        have n48 := ne_b D 48 (by omega)
        have n49 := ne_b D 49 (by omega)
        have n50 := ne_b D 50 (by omega)
        have n51 := ne_b D 51 (by omega)
        have n52 := ne_b D 52 (by omega)
        have n53 := ne_b D 53 (by omega)
        have n54 := ne_b D 54 (by omega)
        have n55 := ne_b D 55 (by omega)
        have n56 := ne_b D 56 (by omega)
        have n57 := ne_b D 57 (by omega)
        have n97 := ne_b D 97 (by omega)
        have n98 := ne_b D 98 (by omega)
        have n99 := ne_b D 99 (by omega)
        have n100 := ne_b D 100 (by omega)
        have n101 := ne_b D 101 (by omega)
        have n102 := ne_b D 102 (by omega)
        clear o o2 hX c1 c2
        go_upto_if 311 with fail
        go_cut [311] from 311 to 317 (fun v wx => v = .bool true ∧ wx = w3)
        case first =>
          rcases (show D = 65 ∨ D = 66 ∨ D = 67 ∨ D = 68 ∨ D = 69 ∨ D = 70 by have := HC.out; omega) with rfl | rfl | rfl | rfl | rfl | rfl
          all_goals
            go_wp2_with fail
            go_meet
            exact ⟨rfl, rfl⟩
        case rest =>
          obtain ⟨rfl, rfl⟩ := hcut
          have o := HO2.out
          have c1 := HC.out.1
          have c2 := HC.out.2
          go_wp2_with fail
          refine ⟨WX18.intro POS V' JJ ⟨by omega, HS3, by have := HPQ.out; omega, by rw [← hJJ]; exact HV'.out.symm⟩ (by kernel_rfl), ?_⟩
          simp [muX, intOf]; omega
    · obtain rfl : j = 2 := by omega
      have HR := Lib.hid (show V = (C : Int) by rw [hV, ← hCe])
      have HP := Lib.hid (show pos = nx by omega)
      have hps : pos ≤ s.size := by omega
      clear hpos hV hnx hCe
      have hw : IntKind.u16.wrap V = V := by rw [IntKind.wrap_u16]; have h1 := HR.out; have h2 := HC65.out; omega
      have t1 : decide (V ≤ 65535) = true := by have h1 := HR.out; have h2 := HC65.out; simp; omega
      have HOA := Lib.hid (World.ownsRow.alloc HSq.out.1 (.cells #[.int .u16 V] 33))
      have hpl2 : pre.length ≤ 1048576 := by omega
      go_wp2_with (at_builtin; refine wpList_append_own _ rfl _ _ 22 rfl w.heap.size 33 i0 (.int .u16 0) 1 2 Tryf.underlying22 hin hz0 hz1 hz2 rfl (by decide) sl pre.length (cellsU pre) rfl HOA.out ⟨wq.heap.size, 0, none⟩ 1 1 [.int .u16 V] rfl rfl (cell_one _ _ _) (by intro u hu; simp at hu; subst hu; rfl) (by unfold maxLen; omega) (by omega) (by have := HSq.out.2.size; simp; omega) ?_; intro v1 w1x hown1 hg1 hnil1; have OA1 := Lib.hid (own_app hown1); have KA1 := Lib.hid (HSq.out.2.trans ((below_alloc1 wq w.heap.size HSq.out.2.size _).trans (below_grown hg1 w.heap.size (by have := HSq.out.2.size; simp; omega) HSq.out.1.lt))); clear hown1 hg1 hnil1)
      refine ⟨WC18.intro v1 pos ⟨pre ++ [V], rest', by have := HP.out; have := HJS.out; omega, OA1.out, KA1.out, by have := HP.out; have := HJS.out; simp; omega, by rw [HP.out]; exact HC'.out, by rw [← HU.out, HR.out]; simp, OA1.out.nn (by simp)⟩ (by kernel_rfl), ?_⟩
      have h1 := HP.out
      have h2 := HJS.out
      simp [mu18, intOf]; omega
set_option maxRecDepth 1000000 in
set_option maxHeartbeats 32000000 in
theorem way_u (g : Nat) (st : Int) (s : ByteArray) (re : Bool) (w : World) (hs : s.size ≤ 1048576) (hst0 : 0 ≤ st) (hst1 : st ≤ 1048576) (HT : Hid (Lib.Utf8Tabs 0 1 w)) (HJ : Hid (∀ (wx : World), Below w.heap.size w wx → wx.cell? ⟨g, 68, none⟩ = some (.int .u8 2))) (xs : List Int) (i0 : TypeInfo) (hin : Tryf.prog.info? 33 = some i0) (hz0 : i0.zero = some (.int .u16 0)) (hz1 : i0.size = 1) (hz2 : i0.bytes = 2) (wr : World) (sl : Value) (i : Nat) (us : Nat → Value) (pre rest' : List Int) (hi : i ≤ s.size) (hpl : pre.length ≤ i) (HS : Hid (St w sl pre wr)) (HTr : Hid (Lib.Utf8Tabs 0 1 wr)) (HN : Hid (NN sl)) (hlt : i < s.size) (nx : Nat) (HC' : Hid (Ch32 s nx rest')) (HJS : Hid (i < nx ∧ nx ≤ s.size)) (I : Nat) (hIs : I ≤ s.size) (C : Nat) (HC65 : Hid (C ≤ 65535)) (HU : Hid (pre ++ ([(C : Int)] ++ rest') = xs)) (h2 : i + 2 ≤ s.size) (hI : i + 1 = I) (hI' : (i : Int) + 1 = (I : Int)) (HD : Hid ((decodeGo (s.extract i s.size)).1 = 92 ∧ (decodeGo (s.extract i s.size)).2 = 1)) (p2 : byt s (i + 1) = 117) (p0 : i + 6 ≤ s.size) (p3 : ∀ k, k < 4 → isHx (byt s (i + 2 + k)) = true) (hCe : C = vj s (i + 2) 4) (hnx : nx = i + 6) (Q : Exit → Act → World → Prop) :
    Code.wp Tryf.prog body18 (Exit.then (fun a' w' => WC18 g st s re w xs a' w' ∧ mu18 s a' w' < mu18 s (fr18 g st s re sl i us) wr) Q) (fr18 g st s re sl i us) wr := by
  conv in body18 => whnf
  unfold fr18
  obtain ⟨v1, v2, v3, v4⟩ : vj s (i + 2) 1 < 16 ∧ vj s (i + 2) 2 < 256 ∧ vj s (i + 2) 3 < 4096 ∧ vj s (i + 2) 4 < 65536 := by
    have a0 := hx_lt _ (p3 0 (by omega)); have a1 := hx_lt _ (p3 1 (by omega)); have a2 := hx_lt _ (p3 2 (by omega)); have a3 := hx_lt _ (p3 3 (by omega))
    simp only [vj]; omega
  have HV3 := Lib.hid (And.intro v1 (And.intro v2 v3))
  have HP3 := Lib.hid p3
  have HD1 := Lib.hid (dec_b s I 117 (by omega) (by rw [← hI]; exact p2) (by omega))
  obtain ⟨J, hJ⟩ : ∃ J, I + 1 = J := ⟨_, rfl⟩
  have hJ' : (I : Int) + 1 = (J : Int) := by omega
  have hJs : J < s.size := by omega
  have HJI := Lib.hid (show J = i + 2 by omega)
  obtain ⟨D0, hD0⟩ : ∃ D0, byt s (i + 2) = D0 := ⟨_, rfl⟩
  have hh2 := isHx_lt _ (p3 0 (by omega))
  rw [Nat.add_zero, hD0] at hh2
  have HD2 := Lib.hid (dec_b s J D0 hJs (by rw [HJI.out]; exact hD0) (by omega))
  have HDq := Lib.hid hD0
  have e123 := ne_b D0 123 (by omega)
  obtain ⟨J2, hJ2⟩ : ∃ J2, J + 1 = J2 := ⟨_, rfl⟩
  have hJ2' : (J : Int) + 1 = (J2 : Int) := by omega
  have hJ2s : J2 ≤ s.size := by omega
  clear p2 p3 hI v1 v2 v3 v4 hD0 hh2
  go_wp2_with fail
  refine (dec37 _ wr HTr.out 92 1 HD.out.1 HD.out.2).mono ?_
  rintro e w1 ⟨rfl, be1⟩
  have HS1 := Lib.hid (HS.out.next be1); have HT1 := Lib.hid (tabs_below HTr.out be1)
  clear be1
  dsimp only
  go_wp2_with fail
  refine (dec37 _ w1 HT1.out 117 1 HD1.out.1 HD1.out.2).mono ?_
  rintro e w2 ⟨rfl, be2⟩
  have HS2 := Lib.hid (HS1.out.next be2); have HT2 := Lib.hid (tabs_below HT1.out be2)
  clear be2
  dsimp only
  go_wp2_with fail
  refine (dec37 _ w2 HT2.out D0 1 HD2.out.1 HD2.out.2).mono ?_
  rintro e w4 ⟨rfl, be4⟩
  have HS4 := Lib.hid (HS2.out.next be4); have HT4 := Lib.hid (tabs_below HT2.out be4)
  clear be4
  dsimp only
  go_wp2_with fail
  refine wp_loop (WJ18 g st s re w i sl pre) muJ ?startj ?roundj
  case startj =>
    exact WJ18.intro J2 0 D0 0 ⟨by omega, HS4, by have := HJI.out; omega, rfl, fun _ => HDq.out.symm⟩ (by kernel_rfl)
  case roundj =>
    rintro a wq ⟨pos, V, D, j, us2, hrelj, rfl⟩
    obtain ⟨hj4, HSq, hpos, hV, hD⟩ := hrelj
    have HPQ := Lib.hid hpos; have HTq := Lib.hid (tabs_below HT.out HSq.out.2)
    clear e123 hJ hJ' hJs hJ2 hJ2' hJ2s
    unfold fr18J
    by_cases hj : j < 4
    · have hDD := hD hj
      have hDx : isHx D = true := by rw [hDD]; exact HP3.out j hj
      have hxl := hx_lt D hDx
      have hVle : vj s (i + 2) j ≤ 4095 := by
        obtain ⟨v1, v2, v3⟩ := HV3.out
        rcases (show j = 0 ∨ j = 1 ∨ j = 2 ∨ j = 3 by omega) with rfl | rfl | rfl | rfl
        · simp [vj]
        · omega
        · omega
        · omega
      obtain ⟨V', hV'⟩ : ∃ V' : Int, ((vj s (i + 2) (j + 1) : Nat) : Int) = V' := ⟨_, rfl⟩
      have o : bits .or .i32 (V * 16) (hx D : Int) = V' := by
        rw [hV, or_hex _ _ (by omega) hxl, ← hV', hDD]; rfl
      have hVa : 0 ≤ V := by omega
      have hVb : V ≤ 4095 := by omega
      obtain ⟨JJ, hJJ⟩ : ∃ JJ, j + 1 = JJ := ⟨_, rfl⟩
      have hJJ' : (j : Int) + 1 = (JJ : Int) := by omega
      have HV' := Lib.hid hV'
      have hps4 : pos ≤ s.size := by omega
      clear hD hDD hVle hV hV' hpos hxl
      go_upto_block 15 with fail
      go_cut [29] from 452 to 493 (fun v wx => v = .int .i32 V' ∧ wx = wq)
      case first =>
        have hcs := hx_class D hDx
        clear hDx
        rcases hcs with hcs | hcs | hcs
        · obtain ⟨c1, c2, hX⟩ := hcs
          rw [hX] at o
          have o2 : bits .or .i32 (V * 16) ((D : Int) - 48) = V' := by first | exact o | (rw [← o]; congr 1; omega)
          have HO2 := Lib.hid o2; have HC := Lib.hid (And.intro c1 c2)
          clear o o2 hX c1 c2
          go_upto_if 452 with fail
          go_cut [452] from 452 to 462 (fun v wx => v = .bool true ∧ wx = wq)
          case first =>
            rcases (show D = 48 ∨ D = 49 ∨ D = 50 ∨ D = 51 ∨ D = 52 ∨ D = 53 ∨ D = 54 ∨ D = 55 ∨ D = 56 ∨ D = 57 by have := HC.out; omega) with rfl | rfl | rfl | rfl | rfl | rfl | rfl | rfl | rfl | rfl
            all_goals
              go_wp2_with fail
              go_meet
              exact ⟨rfl, rfl⟩
          case rest =>
            obtain ⟨rfl, rfl⟩ := hcut
            have o := HO2.out
            have c1 := HC.out.1
            have c2 := HC.out.2
            go_wp2_with fail
            go_meet
            exact ⟨rfl, rfl⟩
        · obtain ⟨c1, c2, hX⟩ := hcs
          rw [hX] at o
          have o2 : bits .or .i32 (V * 16) ((D : Int) + 10 - 97) = V' := by first | exact o | (rw [← o]; congr 1; omega)
          have HO2 := Lib.hid o2; have HC := Lib.hid (And.intro c1 c2)
          have n48 := ne_b D 48 (by omega)
          have n49 := ne_b D 49 (by omega)
          have n50 := ne_b D 50 (by omega)
          have n51 := ne_b D 51 (by omega)
          have n52 := ne_b D 52 (by omega)
          have n53 := ne_b D 53 (by omega)
          have n54 := ne_b D 54 (by omega)
          have n55 := ne_b D 55 (by omega)
          have n56 := ne_b D 56 (by omega)
          have n57 := ne_b D 57 (by omega)
          clear o o2 hX c1 c2
          go_upto_if 468 with fail
          go_cut [468] from 468 to 474 (fun v wx => v = .bool true ∧ wx = wq)
          case first =>
            rcases (show D = 97 ∨ D = 98 ∨ D = 99 ∨ D = 100 ∨ D = 101 ∨ D = 102 by have := HC.out; omega) with rfl | rfl | rfl | rfl | rfl | rfl
            all_goals
              go_wp2_with fail
              go_meet
              exact ⟨rfl, rfl⟩
          case rest =>
            obtain ⟨rfl, rfl⟩ := hcut
            have o := HO2.out
            have c1 := HC.out.1
            have c2 := HC.out.2
            go_wp2_with fail
            go_meet
            exact ⟨rfl, rfl⟩
        · obtain ⟨c1, c2, hX⟩ := hcs
          rw [hX] at o
          have o2 : bits .or .i32 (V * 16) ((D : Int) + 10 - 65) = V' := by first | exact o | (rw [← o]; congr 1; omega)
          have HO2 := Lib.hid o2; have HC := Lib.hid (And.intro c1 c2)
          have n48 := ne_b D 48 (by omega)
          have n49 := ne_b D 49 (by omega)
          have n50 := ne_b D 50 (by omega)
          have n51 := ne_b D 51 (by omega)
          have n52 := ne_b D 52 (by omega)
          have n53 := ne_b D 53 (by omega)
          have n54 := ne_b D 54 (by omega)
          have n55 := ne_b D 55 (by omega)
          have n56 := ne_b D 56 (by omega)
          have n57 := ne_b D 57 (by omega)
          have n97 := ne_b D 97 (by omega)
          have n98 := ne_b D 98 (by omega)
          have n99 := ne_b D 99 (by omega)
          have n100 := ne_b D 100 (by omega)
          have n101 := ne_b D 101 (by omega)
          have n102 := ne_b D 102 (by omega)
          clear o o2 hX c1 c2
          go_upto_if 481 with fail
          go_cut [481] from 481 to 487 (fun v wx => v = .bool true ∧ wx = wq)
          case first =>
            rcases (show D = 65 ∨ D = 66 ∨ D = 67 ∨ D = 68 ∨ D = 69 ∨ D = 70 by have := HC.out; omega) with rfl | rfl | rfl | rfl | rfl | rfl
            all_goals
              go_wp2_with fail
              go_meet
              exact ⟨rfl, rfl⟩
          case rest =>
            obtain ⟨rfl, rfl⟩ := hcut
            have o := HO2.out
            have c1 := HC.out.1
            have c2 := HC.out.2
            go_wp2_with fail
            go_meet
            exact ⟨rfl, rfl⟩
      case rest =>
        obtain ⟨rfl, rfl⟩ := hcut
        by_cases hj3 : j < 3
        · obtain ⟨D', hD'⟩ : ∃ D', byt s (i + 2 + (j + 1)) = D' := ⟨_, rfl⟩
          have hps : pos < s.size := by have := HPQ.out; omega
          have hD'x := isHx_lt _ (HP3.out (j + 1) (by omega))
          have HDn := Lib.hid (dec_b s pos D' hps (by rw [← hD']; congr 1; have := HPQ.out; omega) (by omega))
          have HD'q := Lib.hid hD'
          obtain ⟨POS, hPOS⟩ : ∃ POS, pos + 1 = POS := ⟨_, rfl⟩
          have hPOS' : (pos : Int) + 1 = (POS : Int) := by omega
          clear hD' hD'x
          go_wp2_with fail
          refine (dec37 _ _ HTq.out D' 1 HDn.out.1 HDn.out.2).mono ?_
          rintro e w3 ⟨rfl, be3⟩
          have HS3 := Lib.hid (HSq.out.next be3); have HT3 := Lib.hid (tabs_below HTq.out be3)
          clear be3
          dsimp only
          go_wp2_with fail
          refine ⟨WJ18.intro POS V' D' JJ ⟨by omega, HS3, by have := HPQ.out; omega, by rw [← hJJ]; exact HV'.out.symm, fun _ => by rw [← hJJ]; exact HD'q.out.symm⟩ (by kernel_rfl), ?_⟩
          simp [muJ, intOf]; omega
        · obtain rfl : j = 3 := by omega
          obtain rfl : JJ = 4 := by omega
          clear hJJ hJJ'
          go_wp2_with fail
          refine ⟨WJ18.intro4 pos V' (fun D => ⟨by omega, HSq, by have := HPQ.out; omega, HV'.out.symm, fun h => by omega⟩) (by kernel_rfl), ?_⟩
          simp [muJ, intOf]
    · obtain rfl : j = 4 := by omega
      have HR := Lib.hid (show V = (C : Int) by rw [hV, ← hCe])
      have HP := Lib.hid (show pos = nx by omega)
      have hps : pos ≤ s.size := by omega
      clear hpos hV hD hnx hCe
      have hw : IntKind.u16.wrap V = V := by rw [IntKind.wrap_u16]; have h1 := HR.out; have h2 := HC65.out; omega
      have t1 : decide (V ≤ 65535) = true := by have h1 := HR.out; have h2 := HC65.out; simp; omega
      have HOA := Lib.hid (World.ownsRow.alloc HSq.out.1 (.cells #[.int .u16 V] 33))
      have hpl2 : pre.length ≤ 1048576 := by omega
      go_wp2_with (at_builtin; refine wpList_append_own _ rfl _ _ 22 rfl w.heap.size 33 i0 (.int .u16 0) 1 2 Tryf.underlying22 hin hz0 hz1 hz2 rfl (by decide) sl pre.length (cellsU pre) rfl HOA.out ⟨wq.heap.size, 0, none⟩ 1 1 [.int .u16 V] rfl rfl (cell_one _ _ _) (by intro u hu; simp at hu; subst hu; rfl) (by unfold maxLen; omega) (by omega) (by have := HSq.out.2.size; simp; omega) ?_; intro v1 w1x hown1 hg1 hnil1; have OA1 := Lib.hid (own_app hown1); have KA1 := Lib.hid (HSq.out.2.trans ((below_alloc1 wq w.heap.size HSq.out.2.size _).trans (below_grown hg1 w.heap.size (by have := HSq.out.2.size; simp; omega) HSq.out.1.lt))); clear hown1 hg1 hnil1)
      refine ⟨WC18.intro v1 pos ⟨pre ++ [V], rest', by have := HP.out; have := HJS.out; omega, OA1.out, KA1.out, by have := HP.out; have := HJS.out; simp; omega, by rw [HP.out]; exact HC'.out, by rw [← HU.out, HR.out]; simp, OA1.out.nn (by simp)⟩ (by kernel_rfl), ?_⟩
      have h1 := HP.out
      have h2 := HJS.out
      simp [mu18, intOf]; omega
end Go.Proofs.YtemneajjdbbgoaaFmt
