/-
  tryToDecodeEscapeSequences, a round: digits in braces.
-/
import Derived.Test.YtemneajjdbbgoaaFmtV4
namespace Go.Proofs.YtemneajjdbbgoaaFmt
open Go.ChangeShapes Go.WideShapes Go.ChangeAt Go.RowKit
open Go.Lib (decodeN decode_at decodeGo)
set_option linter.unusedVariables false
set_option maxRecDepth 1000000 in
set_option maxHeartbeats 32000000 in
theorem way_b (g : Nat) (st : Int) (s : ByteArray) (re : Bool) (w : World) (hs : s.size ≤ 1048576) (hst0 : 0 ≤ st) (hst1 : st ≤ 1048576) (HT : Hid (Lib.Utf8Tabs 0 1 w)) (HJ : Hid (∀ (wx : World), Below w.heap.size w wx → wx.cell? ⟨g, 68, none⟩ = some (.int .u8 2))) (xs : List Int) (i0 : TypeInfo) (hin : Tryf.prog.info? 33 = some i0) (hz0 : i0.zero = some (.int .u16 0)) (hz1 : i0.size = 1) (hz2 : i0.bytes = 2) (wr : World) (sl : Value) (i : Nat) (us : Nat → Value) (pre rest' : List Int) (hi : i ≤ s.size) (hpl : pre.length ≤ i) (HS : Hid (St w sl pre wr)) (HTr : Hid (Lib.Utf8Tabs 0 1 wr)) (HN : Hid (NN sl)) (hlt : i < s.size) (nx : Nat) (HC' : Hid (Ch32 s nx rest')) (HJS : Hid (i < nx ∧ nx ≤ s.size)) (I : Nat) (hIs : I ≤ s.size) (C : Nat) (HC65 : Hid (C ≤ 65535)) (HU : Hid (pre ++ ([(C : Int)] ++ rest') = xs)) (h2 : i + 2 ≤ s.size) (hI : i + 1 = I) (hI' : (i : Int) + 1 = (I : Int)) (HD : Hid ((decodeGo (s.extract i s.size)).1 = 92 ∧ (decodeGo (s.extract i s.size)).2 = 1)) (n : Nat) (q1 : 1 ≤ n) (q7 : n ≤ 7) (p0 : i + 4 + n ≤ s.size) (p2 : byt s (i + 1) = 117) (p4 : byt s (i + 2) = 123) (p3 : ∀ k, k < n → isHx (byt s (i + 3 + k)) = true) (p5 : byt s (i + 3 + n) = 125) (pv : vj s (i + 3) n ≤ 65535) (hCe : C = vj s (i + 3) n) (hnx : nx = i + 4 + n) (Q : Exit → Act → World → Prop) :
    Code.wp Tryf.prog body18 (Exit.then (fun a' w' => WC18 g st s re w xs a' w' ∧ mu18 s a' w' < mu18 s (fr18 g st s re sl i us) wr) Q) (fr18 g st s re sl i us) wr := by
  conv in body18 => whnf
  unfold fr18
  have HP3 := Lib.hid p3; have HP5 := Lib.hid p5
  have HVN := Lib.hid (fun j (hj : j ≤ n) => Nat.le_trans (vj_mono s (i + 3) n j hj) pv)
  have HD1 := Lib.hid (dec_b s I 117 (by omega) (by rw [← hI]; exact p2) (by omega))
  obtain ⟨J, hJ⟩ : ∃ J, I + 1 = J := ⟨_, rfl⟩
  have hJ' : (I : Int) + 1 = (J : Int) := by omega
  have hJs : J < s.size := by omega
  have HJI := Lib.hid (show J = i + 2 by omega)
  have HD2 := Lib.hid (dec_b s J 123 hJs (by rw [HJI.out]; exact p4) (by omega))
  obtain ⟨J2, hJ2⟩ : ∃ J2, J + 1 = J2 := ⟨_, rfl⟩
  have hJ2' : (J : Int) + 1 = (J2 : Int) := by omega
  have hJ2s : J2 ≤ s.size := by omega
  clear p2 p3 p4 p5 pv
  go_wp2_with fail
  refine (dec37 _ wr HTr.out 92 1 HD.out.1 HD.out.2).mono ?_
  rintro e w1 ⟨rfl, be1⟩
  have HS1 := Lib.hid (HS.out.next be1); have HT1 := Lib.hid (tabs_below HTr.out be1)
  clear be1
  dsimp only
  go_wp2_with fail
  refine (dec37 _ w1 HT1.out 117 1 HD1.out.1 HD1.out.2).mono ?_
  rintro e w2 ⟨rfl, be2⟩
  have HS2 := Lib.hid (HS1.out.next be2); have HT2 := Lib.hid (tabs_below HT1.out be2)
  clear be2
  dsimp only
  go_wp2_with fail
  refine (dec37 _ w2 HT2.out 123 1 HD2.out.1 HD2.out.2).mono ?_
  rintro e w4 ⟨rfl, be4⟩
  have HS4 := Lib.hid (HS2.out.next be4); have HT4 := Lib.hid (tabs_below HT2.out be4)
  clear be4
  dsimp only
  have j68 := HJ.out w4 HS4.out.2
  go_wp2_with fail
  go_step3
  go_wp2_with fail
  go_step3
  go_wp2_with fail
  refine wp_loop (WB18 g st s re w i n sl pre) (muB i n) ?startb ?roundb
  case startb =>
    exact WB18.intro J2 0 true 0 ⟨by omega, HS4, by have := HJI.out; omega, rfl, fun _ => rfl⟩ (by kernel_rfl)
  case roundb =>
    clear j68 hJ hJ' hJs hJ2 hJ2' hJ2s
    rintro a wq ⟨pos, V, b, j, us2, hrelj, rfl⟩
    obtain ⟨hjn, HSq, hpos, hV, hb⟩ := hrelj
    have HPQ := Lib.hid hpos; have HTq := Lib.hid (tabs_below HT.out HSq.out.2)
    unfold fr18B
    by_cases hj : j < n
    · obtain ⟨D, hD⟩ : ∃ D, byt s (i + 3 + j) = D := ⟨_, rfl⟩
      have hDx : isHx D = true := by rw [← hD]; exact HP3.out j hj
      have hD103 := isHx_lt _ hDx
      have hxl := hx_lt D hDx
      have hps : pos < s.size := by omega
      have HDn := Lib.hid (dec_b s pos D hps (by rw [hpos]; exact hD) (by omega))
      have hnext : vj s (i + 3) (j + 1) = vj s (i + 3) j * 16 + hx D := by rw [vj, hD]
      have hle := HVN.out (j + 1) (by omega)
      have hVle : vj s (i + 3) j ≤ 4095 := by omega
      obtain ⟨V', hV'⟩ : ∃ V' : Int, ((vj s (i + 3) (j + 1) : Nat) : Int) = V' := ⟨_, rfl⟩
      have o : bits .or .i32 (V * 16) (hx D : Int) = V' := by
        rw [hV, or_hex _ _ (by omega) hxl, ← hV', hnext]
      have hVa : 0 ≤ V := by omega
      have hVb : V ≤ 4095 := by omega
      have hVc : V' ≤ 1000000 := by omega
      obtain ⟨JJ, hJJ⟩ : ∃ JJ, j + 1 = JJ := ⟨_, rfl⟩
      have HV' := Lib.hid hV'
      obtain ⟨POS, hPOS⟩ : ∃ POS, pos + 1 = POS := ⟨_, rfl⟩
      have hPOS' : (pos : Int) + 1 = (POS : Int) := by omega
      clear hD hVle hV hV' hpos hxl hnext hle hb
      go_wp2_with fail
      refine (dec37 _ wq HTq.out D 1 HDn.out.1 HDn.out.2).mono ?_
      rintro e w3 ⟨rfl, be3⟩
      have HS3 := Lib.hid (HSq.out.next be3); have HT3 := Lib.hid (tabs_below HTq.out be3)
      clear be3
      dsimp only
      go_upto_block 12 with fail
      go_cut [29] from 372 to 421 (fun v wx => v = .int .i32 V' ∧ wx = w3)
      case first =>
        have hcs := hx_class D hDx
        clear hDx
        rcases hcs with hcs | hcs | hcs
        · obtain ⟨c1, c2, hX⟩ := hcs
          rw [hX] at o
          have o2 : bits .or .i32 (V * 16) ((D : Int) - 48) = V' := by first | exact o | (rw [← o]; congr 1; omega)
          have HO2 := Lib.hid o2; have HC := Lib.hid (And.intro c1 c2)
          clear o o2 hX c1 c2
          go_upto_if 372 with fail
          go_cut [372] from 372 to 382 (fun v wx => v = .bool true ∧ wx = w3)
          case first =>
            rcases (show D = 48 ∨ D = 49 ∨ D = 50 ∨ D = 51 ∨ D = 52 ∨ D = 53 ∨ D = 54 ∨ D = 55 ∨ D = 56 ∨ D = 57 by have := HC.out; omega) with rfl | rfl | rfl | rfl | rfl | rfl | rfl | rfl | rfl | rfl
            all_goals
              go_wp2_with fail
              go_meet
              exact ⟨rfl, rfl⟩
          case rest =>
            obtain ⟨rfl, rfl⟩ := hcut
            have o := HO2.out
            have c1 := HC.out.1
            have c2 := HC.out.2
            go_wp2_with fail
            go_meet
            exact ⟨rfl, rfl⟩
        · obtain ⟨c1, c2, hX⟩ := hcs
          rw [hX] at o
          have o2 : bits .or .i32 (V * 16) ((D : Int) + 10 - 97) = V' := by first | exact o | (rw [← o]; congr 1; omega)
          have HO2 := Lib.hid o2; have HC := Lib.hid (And.intro c1 c2)
          have n48 := ne_b D 48 (by omega)
          have n49 := ne_b D 49 (by omega)
          have n50 := ne_b D 50 (by omega)
          have n51 := ne_b D 51 (by omega)
          have n52 := ne_b D 52 (by omega)
          have n53 := ne_b D 53 (by omega)
          have n54 := ne_b D 54 (by omega)
          have n55 := ne_b D 55 (by omega)
          have n56 := ne_b D 56 (by omega)
          have n57 := ne_b D 57 (by omega)
          clear o o2 hX c1 c2
          go_upto_if 388 with fail
          go_cut [388] from 388 to 394 (fun v wx => v = .bool true ∧ wx = w3)
          case first =>
            rcases (show D = 97 ∨ D = 98 ∨ D = 99 ∨ D = 100 ∨ D = 101 ∨ D = 102 by have := HC.out; omega) with rfl | rfl | rfl | rfl | rfl | rfl
            all_goals
              go_wp2_with fail
              go_meet
              exact ⟨rfl, rfl⟩
          case rest =>
            obtain ⟨rfl, rfl⟩ := hcut
            have o := HO2.out
            have c1 := HC.out.1
            have c2 := HC.out.2
            go_wp2_with fail
            go_meet
            exact ⟨rfl, rfl⟩
        · obtain ⟨c1, c2, hX⟩ := hcs
          rw [hX] at o
          have o2 : bits .or .i32 (V * 16) ((D : Int) + 10 - 65) = V' := by first | exact o | (rw [← o]; congr 1; omega)
          have HO2 := Lib.hid o2; have HC := Lib.hid (And.intro c1 c2)
          have n48 := ne_b D 48 (by omega)
          have n49 := ne_b D 49 (by omega)
          have n50 := ne_b D 50 (by omega)
          have n51 := ne_b D 51 (by omega)
          have n52 := ne_b D 52 (by omega)
          have n53 := ne_b D 53 (by omega)
          have n54 := ne_b D 54 (by omega)
          have n55 := ne_b D 55 (by omega)
          have n56 := ne_b D 56 (by omega)
          have n57 := ne_b D 57 (by omega)
          have n97 := ne_b D 97 (by omega)
          have n98 := ne_b D 98 (by omega)
          have n99 := ne_b D 99 (by omega)
          have n100 := ne_b D 100 (by omega)
          have n101 := ne_b D 101 (by omega)
          have n102 := ne_b D 102 (by omega)
          clear o o2 hX c1 c2
          go_upto_if 401 with fail
          go_cut [401] from 401 to 407 (fun v wx => v = .bool true ∧ wx = w3)
          case first =>
            rcases (show D = 65 ∨ D = 66 ∨ D = 67 ∨ D = 68 ∨ D = 69 ∨ D = 70 by have := HC.out; omega) with rfl | rfl | rfl | rfl | rfl | rfl
            all_goals
              go_wp2_with fail
              go_meet
              exact ⟨rfl, rfl⟩
          case rest =>
            obtain ⟨rfl, rfl⟩ := hcut
            have o := HO2.out
            have c1 := HC.out.1
            have c2 := HC.out.2
            go_wp2_with fail
            go_meet
            exact ⟨rfl, rfl⟩
      case rest =>
        obtain ⟨rfl, rfl⟩ := hcut
        go_wp2_with fail
        refine ⟨WB18.intro POS V' false JJ ⟨by omega, HS3, by have := HPQ.out; omega, by rw [← hJJ]; exact HV'.out.symm, fun h => by cases h⟩ (by kernel_rfl), ?_⟩
        have h9 := HPQ.out
        simp [muB, intOf]; omega
    · obtain rfl : j = n := by omega
      obtain rfl : b = false := by
        cases b with
        | false => rfl
        | true => exact absurd (hb rfl) (by omega)
      have HR := Lib.hid (show V = (C : Int) by rw [hV, ← hCe])
      have hps : pos < s.size := by omega
      have HDn := Lib.hid (dec_b s pos 125 hps (by rw [hpos]; exact HP5.out) (by omega))
      obtain ⟨POS, hPOS⟩ : ∃ POS, pos + 1 = POS := ⟨_, rfl⟩
      have hPOS' : (pos : Int) + 1 = (POS : Int) := by omega
      have HP := Lib.hid (show POS = nx by omega)
      have hps2 : POS ≤ s.size := by omega
      clear hpos hV hb hnx hCe hPOS
      go_wp2_with fail
      refine (dec37 _ wq HTq.out 125 1 HDn.out.1 HDn.out.2).mono ?_
      rintro e w3 ⟨rfl, be3⟩
      have HS3 := Lib.hid (HSq.out.next be3); have HT3 := Lib.hid (tabs_below HTq.out be3)
      clear be3
      dsimp only
      go_wp2_with fail
      simp only [Exit.noGoto, Exit.then]
      have hw : IntKind.u16.wrap V = V := by rw [IntKind.wrap_u16]; have h1 := HR.out; have h2 := HC65.out; omega
      have t1 : decide (V ≤ 65535) = true := by have h1 := HR.out; have h2 := HC65.out; simp; omega
      have HOA := Lib.hid (World.ownsRow.alloc HS3.out.1 (.cells #[.int .u16 V] 33))
      have hpl2 : pre.length ≤ 1048576 := by omega
      go_wp2_with (at_builtin; refine wpList_append_own _ rfl _ _ 22 rfl w.heap.size 33 i0 (.int .u16 0) 1 2 Tryf.underlying22 hin hz0 hz1 hz2 rfl (by decide) sl pre.length (cellsU pre) rfl HOA.out ⟨w3.heap.size, 0, none⟩ 1 1 [.int .u16 V] rfl rfl (cell_one _ _ _) (by intro u hu; simp at hu; subst hu; rfl) (by unfold maxLen; omega) (by omega) (by have := HS3.out.2.size; simp; omega) ?_; intro v1 w1x hown1 hg1 hnil1; have OA1 := Lib.hid (own_app hown1); have KA1 := Lib.hid (HS3.out.2.trans ((below_alloc1 w3 w.heap.size HS3.out.2.size _).trans (below_grown hg1 w.heap.size (by have := HS3.out.2.size; simp; omega) HS3.out.1.lt))); clear hown1 hg1 hnil1)
      refine ⟨WC18.intro v1 POS ⟨pre ++ [V], rest', by have := HP.out; have := HJS.out; omega, OA1.out, KA1.out, by have := HP.out; have := HJS.out; simp; omega, by rw [HP.out]; exact HC'.out, by rw [← HU.out, HR.out]; simp, OA1.out.nn (by simp)⟩ (by kernel_rfl), ?_⟩
      have h1 := HP.out
      have h2 := HJS.out
      simp [mu18, intOf]; omega
end Go.Proofs.YtemneajjdbbgoaaFmt
