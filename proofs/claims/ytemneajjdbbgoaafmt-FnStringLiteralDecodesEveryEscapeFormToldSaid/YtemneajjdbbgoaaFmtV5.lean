/-
  tryToDecodeEscapeSequences, a round: the ways without digits.
-/
import Derived.Test.YtemneajjdbbgoaaFmtV4
namespace Go.Proofs.YtemneajjdbbgoaaFmt
open Go.ChangeShapes Go.WideShapes Go.ChangeAt Go.RowKit
open Go.Lib (decodeN decode_at decodeGo)
set_option linter.unusedVariables false
set_option maxRecDepth 1000000 in
set_option maxHeartbeats 32000000 in
theorem way_A (g : Nat) (st : Int) (s : ByteArray) (re : Bool) (w : World) (hs : s.size ≤ 1048576) (hst0 : 0 ≤ st) (hst1 : st ≤ 1048576) (HT : Hid (Lib.Utf8Tabs 0 1 w)) (HJ : Hid (∀ (wx : World), Below w.heap.size w wx → wx.cell? ⟨g, 68, none⟩ = some (.int .u8 2))) (xs : List Int) (i0 : TypeInfo) (hin : Tryf.prog.info? 33 = some i0) (hz0 : i0.zero = some (.int .u16 0)) (hz1 : i0.size = 1) (hz2 : i0.bytes = 2) (wr : World) (sl : Value) (i : Nat) (us : Nat → Value) (pre rest' : List Int) (hi : i ≤ s.size) (hpl : pre.length ≤ i) (HS : Hid (St w sl pre wr)) (HTr : Hid (Lib.Utf8Tabs 0 1 wr)) (HN : Hid (NN sl)) (hlt : i < s.size) (nx : Nat) (HC' : Hid (Ch32 s nx rest')) (HJS : Hid (i < nx ∧ nx ≤ s.size)) (I : Nat) (hIs : I ≤ s.size) (C : Nat) (HC65 : Hid (C ≤ 65535)) (HU : Hid (pre ++ ([(C : Int)] ++ rest') = xs)) (C0 K0 : Nat) (hI : i + K0 = I) (HD : Hid ((decodeGo (s.extract i s.size)).1 = C0 ∧ (decodeGo (s.extract i s.size)).2 = K0)) (k4 : K0 ≤ 4) (hCe : C0 = C) (hnx : nx = i + K0) (c92 : C ≠ 92) (c13 : C ≠ 13) (Q : Exit → Act → World → Prop) :
    Code.wp Tryf.prog body18 (Exit.then (fun a' w' => WC18 g st s re w xs a' w' ∧ mu18 s a' w' < mu18 s (fr18 g st s re sl i us) wr) Q) (fr18 g st s re sl i us) wr := by
  conv in body18 => whnf
  unfold fr18
  obtain ⟨R, hR⟩ : ∃ R : Int, (C0 : Int) = R := ⟨_, rfl⟩
  have q92 : (R == 92) = false := by rw [beq_eq_false_iff_ne]; omega
  have q13 : (R == 13) = false := by rw [beq_eq_false_iff_ne]; omega
  have HR0 := Lib.hid hR
  have HR := Lib.hid (show R = (C : Int) by omega)
  have HP := Lib.hid (show I = nx by omega)
  have hI' : (i : Int) + (K0 : Int) = (I : Int) := by omega
  clear hR hCe hnx c92 c13 hI
  go_wp2_with fail
  refine (dec37 _ wr HTr.out C0 K0 HD.out.1 HD.out.2).mono ?_
  rintro e w1 ⟨rfl, be1⟩
  have HS1 := Lib.hid (HS.out.next be1); have HT1 := Lib.hid (tabs_below HTr.out be1)
  clear be1
  dsimp only
  rw [HR0.out]
  have hw : IntKind.u16.wrap R = R := by rw [IntKind.wrap_u16]; have h1 := HR.out; have h2 := HC65.out; omega
  have t1 : decide (R ≤ 65535) = true := by have h1 := HR.out; have h2 := HC65.out; simp; omega
  have HOA := Lib.hid (World.ownsRow.alloc HS1.out.1 (.cells #[.int .u16 R] 33))
  have hpl2 : pre.length ≤ 1048576 := by omega
  go_wp2_with (at_builtin; refine wpList_append_own _ rfl _ _ 22 rfl w.heap.size 33 i0 (.int .u16 0) 1 2 Tryf.underlying22 hin hz0 hz1 hz2 rfl (by decide) sl pre.length (cellsU pre) rfl HOA.out ⟨w1.heap.size, 0, none⟩ 1 1 [.int .u16 R] rfl rfl (cell_one _ _ _) (by intro u hu; simp at hu; subst hu; rfl) (by unfold maxLen; omega) (by omega) (by have := HS1.out.2.size; simp; omega) ?_; intro v1 w1x hown1 hg1 hnil1; have OA1 := Lib.hid (own_app hown1); have KA1 := Lib.hid (HS1.out.2.trans ((below_alloc1 w1 w.heap.size HS1.out.2.size _).trans (below_grown hg1 w.heap.size (by have := HS1.out.2.size; simp; omega) HS1.out.1.lt))); clear hown1 hg1 hnil1)
  refine ⟨WC18.intro v1 I ⟨pre ++ [R], rest', by have := HP.out; have := HJS.out; omega, OA1.out, KA1.out, by have := HP.out; have := HJS.out; simp; omega, by rw [HP.out]; exact HC'.out, by rw [← HU.out, HR.out]; simp, OA1.out.nn (by simp)⟩ (by kernel_rfl), ?_⟩
  have h1 := HP.out
  have h2 := HJS.out
  simp [mu18, intOf]; omega
set_option maxRecDepth 1000000 in
set_option maxHeartbeats 32000000 in
theorem way_id (g : Nat) (st : Int) (s : ByteArray) (re : Bool) (w : World) (hs : s.size ≤ 1048576) (hst0 : 0 ≤ st) (hst1 : st ≤ 1048576) (HT : Hid (Lib.Utf8Tabs 0 1 w)) (HJ : Hid (∀ (wx : World), Below w.heap.size w wx → wx.cell? ⟨g, 68, none⟩ = some (.int .u8 2))) (xs : List Int) (i0 : TypeInfo) (hin : Tryf.prog.info? 33 = some i0) (hz0 : i0.zero = some (.int .u16 0)) (hz1 : i0.size = 1) (hz2 : i0.bytes = 2) (wr : World) (sl : Value) (i : Nat) (us : Nat → Value) (pre rest' : List Int) (hi : i ≤ s.size) (hpl : pre.length ≤ i) (HS : Hid (St w sl pre wr)) (HTr : Hid (Lib.Utf8Tabs 0 1 wr)) (HN : Hid (NN sl)) (hlt : i < s.size) (nx : Nat) (HC' : Hid (Ch32 s nx rest')) (HJS : Hid (i < nx ∧ nx ≤ s.size)) (I : Nat) (hIs : I ≤ s.size) (C : Nat) (HC65 : Hid (C ≤ 65535)) (HU : Hid (pre ++ ([(C : Int)] ++ rest') = xs)) (h2 : i + 2 ≤ s.size) (hI : i + 1 = I) (hI' : (i : Int) + 1 = (I : Int)) (HD : Hid ((decodeGo (s.extract i s.size)).1 = 92 ∧ (decodeGo (s.extract i s.size)).2 = 1)) (K : Nat) (hdC : decodeGo (s.extract (i + 1) s.size) = (C, K)) (hId : isId C) (hnx : nx = i + 1 + K) (Q : Exit → Act → World → Prop) :
    Code.wp Tryf.prog body18 (Exit.then (fun a' w' => WC18 g st s re w xs a' w' ∧ mu18 s a' w' < mu18 s (fr18 g st s re sl i us) wr) Q) (fr18 g st s re sl i us) wr := by
  conv in body18 => whnf
  unfold fr18
  obtain ⟨i1, i2, i3, i4, i5, i6, i7, i8, i9, i10, i11, i12, i13⟩ := hId
  obtain ⟨x1, x2, x3⟩ := dec_wid s I (by omega)
  rw [show i + 1 = I from hI] at hdC
  rw [hdC] at x1 x2 x3
  have HDC := Lib.hid (show (decodeGo (s.extract I s.size)).1 = C ∧ (decodeGo (s.extract I s.size)).2 = K by rw [hdC]; exact ⟨rfl, rfl⟩)
  obtain ⟨J, hJ⟩ : ∃ J, I + K = J := ⟨_, rfl⟩
  have hJ' : (I : Int) + (K : Int) = (J : Int) := by omega
  have hJs : J ≤ s.size := by omega
  have HJJ := Lib.hid (show i + 1 + K = J by omega)
  dsimp only at x1 x2 x3
  obtain ⟨R, hR⟩ : ∃ R : Int, (C : Int) = R := ⟨_, rfl⟩
  have n98 : (R == 98) = false := by rw [beq_eq_false_iff_ne]; omega
  have n102 : (R == 102) = false := by rw [beq_eq_false_iff_ne]; omega
  have n110 : (R == 110) = false := by rw [beq_eq_false_iff_ne]; omega
  have n114 : (R == 114) = false := by rw [beq_eq_false_iff_ne]; omega
  have n116 : (R == 116) = false := by rw [beq_eq_false_iff_ne]; omega
  have n118 : (R == 118) = false := by rw [beq_eq_false_iff_ne]; omega
  have n48 : (R == 48) = false := by rw [beq_eq_false_iff_ne]; omega
  have n49 : (R == 49) = false := by rw [beq_eq_false_iff_ne]; omega
  have n50 : (R == 50) = false := by rw [beq_eq_false_iff_ne]; omega
  have n51 : (R == 51) = false := by rw [beq_eq_false_iff_ne]; omega
  have n52 : (R == 52) = false := by rw [beq_eq_false_iff_ne]; omega
  have n53 : (R == 53) = false := by rw [beq_eq_false_iff_ne]; omega
  have n54 : (R == 54) = false := by rw [beq_eq_false_iff_ne]; omega
  have n55 : (R == 55) = false := by rw [beq_eq_false_iff_ne]; omega
  have n56 : (R == 56) = false := by rw [beq_eq_false_iff_ne]; omega
  have n57 : (R == 57) = false := by rw [beq_eq_false_iff_ne]; omega
  have n120 : (R == 120) = false := by rw [beq_eq_false_iff_ne]; omega
  have n117 : (R == 117) = false := by rw [beq_eq_false_iff_ne]; omega
  have n13 : (R == 13) = false := by rw [beq_eq_false_iff_ne]; omega
  have n10 : (R == 10) = false := by rw [beq_eq_false_iff_ne]; omega
  have n8232 : (R == 8232) = false := by rw [beq_eq_false_iff_ne]; omega
  have n8233 : (R == 8233) = false := by rw [beq_eq_false_iff_ne]; omega
  have HR0 := Lib.hid hR
  have HR := Lib.hid hR.symm
  have HP := Lib.hid (show J = nx by omega)
  clear i1 i2 i3 i4 i5 i6 i7 i8 i9 i10 i11 i12 i13 hdC hI x1 x3 hR hnx
  go_wp2_with fail
  refine (dec37 _ wr HTr.out 92 1 HD.out.1 HD.out.2).mono ?_
  rintro e w1 ⟨rfl, be1⟩
  have HS1 := Lib.hid (HS.out.next be1); have HT1 := Lib.hid (tabs_below HTr.out be1)
  clear be1
  dsimp only
  go_wp2_with fail
  refine (dec37 _ w1 HT1.out C K HDC.out.1 HDC.out.2).mono ?_
  rintro e w2 ⟨rfl, be2⟩
  have HS2 := Lib.hid (HS1.out.next be2); have HT2 := Lib.hid (tabs_below HT1.out be2)
  clear be2
  dsimp only
  rw [HR0.out]
  have j68 := HJ.out w2 HS2.out.2
  have hw : IntKind.u16.wrap R = R := by rw [IntKind.wrap_u16]; have h1 := HR.out; have h2 := HC65.out; omega
  have t1 : decide (R ≤ 65535) = true := by have h1 := HR.out; have h2 := HC65.out; simp; omega
  have HOA := Lib.hid (World.ownsRow.alloc HS2.out.1 (.cells #[.int .u16 R] 33))
  have hpl2 : pre.length ≤ 1048576 := by omega
  go_wp2_with (at_builtin; refine wpList_append_own _ rfl _ _ 22 rfl w.heap.size 33 i0 (.int .u16 0) 1 2 Tryf.underlying22 hin hz0 hz1 hz2 rfl (by decide) sl pre.length (cellsU pre) rfl HOA.out ⟨w2.heap.size, 0, none⟩ 1 1 [.int .u16 R] rfl rfl (cell_one _ _ _) (by intro u hu; simp at hu; subst hu; rfl) (by unfold maxLen; omega) (by omega) (by have := HS2.out.2.size; simp; omega) ?_; intro v1 w1x hown1 hg1 hnil1; have OA1 := Lib.hid (own_app hown1); have KA1 := Lib.hid (HS2.out.2.trans ((below_alloc1 w2 w.heap.size HS2.out.2.size _).trans (below_grown hg1 w.heap.size (by have := HS2.out.2.size; simp; omega) HS2.out.1.lt))); clear hown1 hg1 hnil1)
  refine ⟨WC18.intro v1 J ⟨pre ++ [R], rest', by have := HP.out; have := HJS.out; omega, OA1.out, KA1.out, by have := HP.out; have := HJS.out; simp; omega, by rw [HP.out]; exact HC'.out, by rw [← HU.out, HR.out]; simp, OA1.out.nn (by simp)⟩ (by kernel_rfl), ?_⟩
  have h1 := HP.out
  have h2 := HJS.out
  simp [mu18, intOf]; omega
set_option maxRecDepth 1000000 in
set_option maxHeartbeats 32000000 in
theorem way_e98 (g : Nat) (st : Int) (s : ByteArray) (re : Bool) (w : World) (hs : s.size ≤ 1048576) (hst0 : 0 ≤ st) (hst1 : st ≤ 1048576) (HT : Hid (Lib.Utf8Tabs 0 1 w)) (HJ : Hid (∀ (wx : World), Below w.heap.size w wx → wx.cell? ⟨g, 68, none⟩ = some (.int .u8 2))) (xs : List Int) (i0 : TypeInfo) (hin : Tryf.prog.info? 33 = some i0) (hz0 : i0.zero = some (.int .u16 0)) (hz1 : i0.size = 1) (hz2 : i0.bytes = 2) (wr : World) (sl : Value) (i : Nat) (us : Nat → Value) (pre rest' : List Int) (hi : i ≤ s.size) (hpl : pre.length ≤ i) (HS : Hid (St w sl pre wr)) (HTr : Hid (Lib.Utf8Tabs 0 1 wr)) (HN : Hid (NN sl)) (hlt : i < s.size) (nx : Nat) (HC' : Hid (Ch32 s nx rest')) (HJS : Hid (i < nx ∧ nx ≤ s.size)) (I : Nat) (hIs : I ≤ s.size) (h2 : i + 2 ≤ s.size) (hI : i + 1 = I) (hI' : (i : Int) + 1 = (I : Int)) (HD : Hid ((decodeGo (s.extract i s.size)).1 = 92 ∧ (decodeGo (s.extract i s.size)).2 = 1)) (HU : Hid (pre ++ ([(8 : Int)] ++ rest') = xs)) (e1 : byt s I = 98) (hnx : nx = i + 2) (Q : Exit → Act → World → Prop) :
    Code.wp Tryf.prog body18 (Exit.then (fun a' w' => WC18 g st s re w xs a' w' ∧ mu18 s a' w' < mu18 s (fr18 g st s re sl i us) wr) Q) (fr18 g st s re sl i us) wr := by
  conv in body18 => whnf
  unfold fr18
  obtain ⟨J, hJ⟩ : ∃ J, I + 1 = J := ⟨_, rfl⟩
  have hJ' : (I : Int) + 1 = (J : Int) := by omega
  have hJs : J ≤ s.size := by omega
  have HJI := Lib.hid (show J = i + 2 by omega)
  have HJN := Lib.hid (show J = nx by omega)
  have hIl : I < s.size := by omega
  have HD1 := Lib.hid (dec_b s I 98 hIl e1 (by omega))
  have HOA0 := Lib.hid (fun (wx : World) (h : St w sl pre wx) (r : Int) => World.ownsRow.alloc h.1 (.cells #[.int .u16 r] 33))
  clear hI hJ e1 hnx
  go_wp2_with fail
  refine (dec37 _ wr HTr.out 92 1 HD.out.1 HD.out.2).mono ?_
  rintro e w1 ⟨rfl, be1⟩
  have HS1 := Lib.hid (HS.out.next be1); have HT1 := Lib.hid (tabs_below HTr.out be1)
  clear be1
  dsimp only
  go_wp2_with fail
  refine (dec37 _ w1 HT1.out 98 1 HD1.out.1 HD1.out.2).mono ?_
  rintro e w2 ⟨rfl, be2⟩
  have HS2 := Lib.hid (HS1.out.next be2); have HT2 := Lib.hid (tabs_below HT1.out be2)
  clear be2
  dsimp only
  have HOA := Lib.hid (HOA0.out w2 HS2.out 8)
  have j68 := HJ.out w2 HS2.out.2
  go_wp2_with (at_builtin; refine wpList_append_own _ rfl _ _ 22 rfl w.heap.size 33 i0 (.int .u16 0) 1 2 Tryf.underlying22 hin hz0 hz1 hz2 rfl (by decide) sl pre.length (cellsU pre) rfl HOA.out ⟨w2.heap.size, 0, none⟩ 1 1 [.int .u16 8] rfl rfl (cell_one _ _ _) (by intro u hu; simp at hu; subst hu; rfl) (by unfold maxLen; omega) (by omega) (by have := HS2.out.2.size; simp; omega) ?_; intro v1 w1x hown1 hg1 hnil1; have OA1 := Lib.hid (own_app hown1); have KA1 := Lib.hid (HS2.out.2.trans ((below_alloc1 w2 w.heap.size HS2.out.2.size _).trans (below_grown hg1 w.heap.size (by have := HS2.out.2.size; simp; omega) HS2.out.1.lt))); clear hown1 hg1 hnil1)
  refine ⟨WC18.intro v1 J ⟨pre ++ [8], rest', hJs, OA1.out, KA1.out, by have := HJI.out; simp; omega, by rw [HJN.out]; exact HC'.out, by rw [← HU.out]; simp, OA1.out.nn (by simp)⟩ (by kernel_rfl), ?_⟩
  have := HJI.out
  simp [mu18, intOf]; omega
set_option maxRecDepth 1000000 in
set_option maxHeartbeats 32000000 in
theorem way_e102 (g : Nat) (st : Int) (s : ByteArray) (re : Bool) (w : World) (hs : s.size ≤ 1048576) (hst0 : 0 ≤ st) (hst1 : st ≤ 1048576) (HT : Hid (Lib.Utf8Tabs 0 1 w)) (HJ : Hid (∀ (wx : World), Below w.heap.size w wx → wx.cell? ⟨g, 68, none⟩ = some (.int .u8 2))) (xs : List Int) (i0 : TypeInfo) (hin : Tryf.prog.info? 33 = some i0) (hz0 : i0.zero = some (.int .u16 0)) (hz1 : i0.size = 1) (hz2 : i0.bytes = 2) (wr : World) (sl : Value) (i : Nat) (us : Nat → Value) (pre rest' : List Int) (hi : i ≤ s.size) (hpl : pre.length ≤ i) (HS : Hid (St w sl pre wr)) (HTr : Hid (Lib.Utf8Tabs 0 1 wr)) (HN : Hid (NN sl)) (hlt : i < s.size) (nx : Nat) (HC' : Hid (Ch32 s nx rest')) (HJS : Hid (i < nx ∧ nx ≤ s.size)) (I : Nat) (hIs : I ≤ s.size) (h2 : i + 2 ≤ s.size) (hI : i + 1 = I) (hI' : (i : Int) + 1 = (I : Int)) (HD : Hid ((decodeGo (s.extract i s.size)).1 = 92 ∧ (decodeGo (s.extract i s.size)).2 = 1)) (HU : Hid (pre ++ ([(12 : Int)] ++ rest') = xs)) (e1 : byt s I = 102) (hnx : nx = i + 2) (Q : Exit → Act → World → Prop) :
    Code.wp Tryf.prog body18 (Exit.then (fun a' w' => WC18 g st s re w xs a' w' ∧ mu18 s a' w' < mu18 s (fr18 g st s re sl i us) wr) Q) (fr18 g st s re sl i us) wr := by
  conv in body18 => whnf
  unfold fr18
  obtain ⟨J, hJ⟩ : ∃ J, I + 1 = J := ⟨_, rfl⟩
  have hJ' : (I : Int) + 1 = (J : Int) := by omega
  have hJs : J ≤ s.size := by omega
  have HJI := Lib.hid (show J = i + 2 by omega)
  have HJN := Lib.hid (show J = nx by omega)
  have hIl : I < s.size := by omega
  have HD1 := Lib.hid (dec_b s I 102 hIl e1 (by omega))
  have HOA0 := Lib.hid (fun (wx : World) (h : St w sl pre wx) (r : Int) => World.ownsRow.alloc h.1 (.cells #[.int .u16 r] 33))
  clear hI hJ e1 hnx
  go_wp2_with fail
  refine (dec37 _ wr HTr.out 92 1 HD.out.1 HD.out.2).mono ?_
  rintro e w1 ⟨rfl, be1⟩
  have HS1 := Lib.hid (HS.out.next be1); have HT1 := Lib.hid (tabs_below HTr.out be1)
  clear be1
  dsimp only
  go_wp2_with fail
  refine (dec37 _ w1 HT1.out 102 1 HD1.out.1 HD1.out.2).mono ?_
  rintro e w2 ⟨rfl, be2⟩
  have HS2 := Lib.hid (HS1.out.next be2); have HT2 := Lib.hid (tabs_below HT1.out be2)
  clear be2
  dsimp only
  have HOA := Lib.hid (HOA0.out w2 HS2.out 12)
  have j68 := HJ.out w2 HS2.out.2
  go_wp2_with (at_builtin; refine wpList_append_own _ rfl _ _ 22 rfl w.heap.size 33 i0 (.int .u16 0) 1 2 Tryf.underlying22 hin hz0 hz1 hz2 rfl (by decide) sl pre.length (cellsU pre) rfl HOA.out ⟨w2.heap.size, 0, none⟩ 1 1 [.int .u16 12] rfl rfl (cell_one _ _ _) (by intro u hu; simp at hu; subst hu; rfl) (by unfold maxLen; omega) (by omega) (by have := HS2.out.2.size; simp; omega) ?_; intro v1 w1x hown1 hg1 hnil1; have OA1 := Lib.hid (own_app hown1); have KA1 := Lib.hid (HS2.out.2.trans ((below_alloc1 w2 w.heap.size HS2.out.2.size _).trans (below_grown hg1 w.heap.size (by have := HS2.out.2.size; simp; omega) HS2.out.1.lt))); clear hown1 hg1 hnil1)
  refine ⟨WC18.intro v1 J ⟨pre ++ [12], rest', hJs, OA1.out, KA1.out, by have := HJI.out; simp; omega, by rw [HJN.out]; exact HC'.out, by rw [← HU.out]; simp, OA1.out.nn (by simp)⟩ (by kernel_rfl), ?_⟩
  have := HJI.out
  simp [mu18, intOf]; omega
set_option maxRecDepth 1000000 in
set_option maxHeartbeats 32000000 in
theorem way_e110 (g : Nat) (st : Int) (s : ByteArray) (re : Bool) (w : World) (hs : s.size ≤ 1048576) (hst0 : 0 ≤ st) (hst1 : st ≤ 1048576) (HT : Hid (Lib.Utf8Tabs 0 1 w)) (HJ : Hid (∀ (wx : World), Below w.heap.size w wx → wx.cell? ⟨g, 68, none⟩ = some (.int .u8 2))) (xs : List Int) (i0 : TypeInfo) (hin : Tryf.prog.info? 33 = some i0) (hz0 : i0.zero = some (.int .u16 0)) (hz1 : i0.size = 1) (hz2 : i0.bytes = 2) (wr : World) (sl : Value) (i : Nat) (us : Nat → Value) (pre rest' : List Int) (hi : i ≤ s.size) (hpl : pre.length ≤ i) (HS : Hid (St w sl pre wr)) (HTr : Hid (Lib.Utf8Tabs 0 1 wr)) (HN : Hid (NN sl)) (hlt : i < s.size) (nx : Nat) (HC' : Hid (Ch32 s nx rest')) (HJS : Hid (i < nx ∧ nx ≤ s.size)) (I : Nat) (hIs : I ≤ s.size) (h2 : i + 2 ≤ s.size) (hI : i + 1 = I) (hI' : (i : Int) + 1 = (I : Int)) (HD : Hid ((decodeGo (s.extract i s.size)).1 = 92 ∧ (decodeGo (s.extract i s.size)).2 = 1)) (HU : Hid (pre ++ ([(10 : Int)] ++ rest') = xs)) (e1 : byt s I = 110) (hnx : nx = i + 2) (Q : Exit → Act → World → Prop) :
    Code.wp Tryf.prog body18 (Exit.then (fun a' w' => WC18 g st s re w xs a' w' ∧ mu18 s a' w' < mu18 s (fr18 g st s re sl i us) wr) Q) (fr18 g st s re sl i us) wr := by
  conv in body18 => whnf
  unfold fr18
  obtain ⟨J, hJ⟩ : ∃ J, I + 1 = J := ⟨_, rfl⟩
  have hJ' : (I : Int) + 1 = (J : Int) := by omega
  have hJs : J ≤ s.size := by omega
  have HJI := Lib.hid (show J = i + 2 by omega)
  have HJN := Lib.hid (show J = nx by omega)
  have hIl : I < s.size := by omega
  have HD1 := Lib.hid (dec_b s I 110 hIl e1 (by omega))
  have HOA0 := Lib.hid (fun (wx : World) (h : St w sl pre wx) (r : Int) => World.ownsRow.alloc h.1 (.cells #[.int .u16 r] 33))
  clear hI hJ e1 hnx
  go_wp2_with fail
  refine (dec37 _ wr HTr.out 92 1 HD.out.1 HD.out.2).mono ?_
  rintro e w1 ⟨rfl, be1⟩
  have HS1 := Lib.hid (HS.out.next be1); have HT1 := Lib.hid (tabs_below HTr.out be1)
  clear be1
  dsimp only
  go_wp2_with fail
  refine (dec37 _ w1 HT1.out 110 1 HD1.out.1 HD1.out.2).mono ?_
  rintro e w2 ⟨rfl, be2⟩
  have HS2 := Lib.hid (HS1.out.next be2); have HT2 := Lib.hid (tabs_below HT1.out be2)
  clear be2
  dsimp only
  have HOA := Lib.hid (HOA0.out w2 HS2.out 10)
  have j68 := HJ.out w2 HS2.out.2
  go_wp2_with (at_builtin; refine wpList_append_own _ rfl _ _ 22 rfl w.heap.size 33 i0 (.int .u16 0) 1 2 Tryf.underlying22 hin hz0 hz1 hz2 rfl (by decide) sl pre.length (cellsU pre) rfl HOA.out ⟨w2.heap.size, 0, none⟩ 1 1 [.int .u16 10] rfl rfl (cell_one _ _ _) (by intro u hu; simp at hu; subst hu; rfl) (by unfold maxLen; omega) (by omega) (by have := HS2.out.2.size; simp; omega) ?_; intro v1 w1x hown1 hg1 hnil1; have OA1 := Lib.hid (own_app hown1); have KA1 := Lib.hid (HS2.out.2.trans ((below_alloc1 w2 w.heap.size HS2.out.2.size _).trans (below_grown hg1 w.heap.size (by have := HS2.out.2.size; simp; omega) HS2.out.1.lt))); clear hown1 hg1 hnil1)
  refine ⟨WC18.intro v1 J ⟨pre ++ [10], rest', hJs, OA1.out, KA1.out, by have := HJI.out; simp; omega, by rw [HJN.out]; exact HC'.out, by rw [← HU.out]; simp, OA1.out.nn (by simp)⟩ (by kernel_rfl), ?_⟩
  have := HJI.out
  simp [mu18, intOf]; omega
set_option maxRecDepth 1000000 in
set_option maxHeartbeats 32000000 in
theorem way_e114 (g : Nat) (st : Int) (s : ByteArray) (re : Bool) (w : World) (hs : s.size ≤ 1048576) (hst0 : 0 ≤ st) (hst1 : st ≤ 1048576) (HT : Hid (Lib.Utf8Tabs 0 1 w)) (HJ : Hid (∀ (wx : World), Below w.heap.size w wx → wx.cell? ⟨g, 68, none⟩ = some (.int .u8 2))) (xs : List Int) (i0 : TypeInfo) (hin : Tryf.prog.info? 33 = some i0) (hz0 : i0.zero = some (.int .u16 0)) (hz1 : i0.size = 1) (hz2 : i0.bytes = 2) (wr : World) (sl : Value) (i : Nat) (us : Nat → Value) (pre rest' : List Int) (hi : i ≤ s.size) (hpl : pre.length ≤ i) (HS : Hid (St w sl pre wr)) (HTr : Hid (Lib.Utf8Tabs 0 1 wr)) (HN : Hid (NN sl)) (hlt : i < s.size) (nx : Nat) (HC' : Hid (Ch32 s nx rest')) (HJS : Hid (i < nx ∧ nx ≤ s.size)) (I : Nat) (hIs : I ≤ s.size) (h2 : i + 2 ≤ s.size) (hI : i + 1 = I) (hI' : (i : Int) + 1 = (I : Int)) (HD : Hid ((decodeGo (s.extract i s.size)).1 = 92 ∧ (decodeGo (s.extract i s.size)).2 = 1)) (HU : Hid (pre ++ ([(13 : Int)] ++ rest') = xs)) (e1 : byt s I = 114) (hnx : nx = i + 2) (Q : Exit → Act → World → Prop) :
    Code.wp Tryf.prog body18 (Exit.then (fun a' w' => WC18 g st s re w xs a' w' ∧ mu18 s a' w' < mu18 s (fr18 g st s re sl i us) wr) Q) (fr18 g st s re sl i us) wr := by
  conv in body18 => whnf
  unfold fr18
  obtain ⟨J, hJ⟩ : ∃ J, I + 1 = J := ⟨_, rfl⟩
  have hJ' : (I : Int) + 1 = (J : Int) := by omega
  have hJs : J ≤ s.size := by omega
  have HJI := Lib.hid (show J = i + 2 by omega)
  have HJN := Lib.hid (show J = nx by omega)
  have hIl : I < s.size := by omega
  have HD1 := Lib.hid (dec_b s I 114 hIl e1 (by omega))
  have HOA0 := Lib.hid (fun (wx : World) (h : St w sl pre wx) (r : Int) => World.ownsRow.alloc h.1 (.cells #[.int .u16 r] 33))
  clear hI hJ e1 hnx
  go_wp2_with fail
  refine (dec37 _ wr HTr.out 92 1 HD.out.1 HD.out.2).mono ?_
  rintro e w1 ⟨rfl, be1⟩
  have HS1 := Lib.hid (HS.out.next be1); have HT1 := Lib.hid (tabs_below HTr.out be1)
  clear be1
  dsimp only
  go_wp2_with fail
  refine (dec37 _ w1 HT1.out 114 1 HD1.out.1 HD1.out.2).mono ?_
  rintro e w2 ⟨rfl, be2⟩
  have HS2 := Lib.hid (HS1.out.next be2); have HT2 := Lib.hid (tabs_below HT1.out be2)
  clear be2
  dsimp only
  have HOA := Lib.hid (HOA0.out w2 HS2.out 13)
  have j68 := HJ.out w2 HS2.out.2
  go_wp2_with (at_builtin; refine wpList_append_own _ rfl _ _ 22 rfl w.heap.size 33 i0 (.int .u16 0) 1 2 Tryf.underlying22 hin hz0 hz1 hz2 rfl (by decide) sl pre.length (cellsU pre) rfl HOA.out ⟨w2.heap.size, 0, none⟩ 1 1 [.int .u16 13] rfl rfl (cell_one _ _ _) (by intro u hu; simp at hu; subst hu; rfl) (by unfold maxLen; omega) (by omega) (by have := HS2.out.2.size; simp; omega) ?_; intro v1 w1x hown1 hg1 hnil1; have OA1 := Lib.hid (own_app hown1); have KA1 := Lib.hid (HS2.out.2.trans ((below_alloc1 w2 w.heap.size HS2.out.2.size _).trans (below_grown hg1 w.heap.size (by have := HS2.out.2.size; simp; omega) HS2.out.1.lt))); clear hown1 hg1 hnil1)
  refine ⟨WC18.intro v1 J ⟨pre ++ [13], rest', hJs, OA1.out, KA1.out, by have := HJI.out; simp; omega, by rw [HJN.out]; exact HC'.out, by rw [← HU.out]; simp, OA1.out.nn (by simp)⟩ (by kernel_rfl), ?_⟩
  have := HJI.out
  simp [mu18, intOf]; omega
set_option maxRecDepth 1000000 in
set_option maxHeartbeats 32000000 in
theorem way_e116 (g : Nat) (st : Int) (s : ByteArray) (re : Bool) (w : World) (hs : s.size ≤ 1048576) (hst0 : 0 ≤ st) (hst1 : st ≤ 1048576) (HT : Hid (Lib.Utf8Tabs 0 1 w)) (HJ : Hid (∀ (wx : World), Below w.heap.size w wx → wx.cell? ⟨g, 68, none⟩ = some (.int .u8 2))) (xs : List Int) (i0 : TypeInfo) (hin : Tryf.prog.info? 33 = some i0) (hz0 : i0.zero = some (.int .u16 0)) (hz1 : i0.size = 1) (hz2 : i0.bytes = 2) (wr : World) (sl : Value) (i : Nat) (us : Nat → Value) (pre rest' : List Int) (hi : i ≤ s.size) (hpl : pre.length ≤ i) (HS : Hid (St w sl pre wr)) (HTr : Hid (Lib.Utf8Tabs 0 1 wr)) (HN : Hid (NN sl)) (hlt : i < s.size) (nx : Nat) (HC' : Hid (Ch32 s nx rest')) (HJS : Hid (i < nx ∧ nx ≤ s.size)) (I : Nat) (hIs : I ≤ s.size) (h2 : i + 2 ≤ s.size) (hI : i + 1 = I) (hI' : (i : Int) + 1 = (I : Int)) (HD : Hid ((decodeGo (s.extract i s.size)).1 = 92 ∧ (decodeGo (s.extract i s.size)).2 = 1)) (HU : Hid (pre ++ ([(9 : Int)] ++ rest') = xs)) (e1 : byt s I = 116) (hnx : nx = i + 2) (Q : Exit → Act → World → Prop) :
    Code.wp Tryf.prog body18 (Exit.then (fun a' w' => WC18 g st s re w xs a' w' ∧ mu18 s a' w' < mu18 s (fr18 g st s re sl i us) wr) Q) (fr18 g st s re sl i us) wr := by
  conv in body18 => whnf
  unfold fr18
  obtain ⟨J, hJ⟩ : ∃ J, I + 1 = J := ⟨_, rfl⟩
  have hJ' : (I : Int) + 1 = (J : Int) := by omega
  have hJs : J ≤ s.size := by omega
  have HJI := Lib.hid (show J = i + 2 by omega)
  have HJN := Lib.hid (show J = nx by omega)
  have hIl : I < s.size := by omega
  have HD1 := Lib.hid (dec_b s I 116 hIl e1 (by omega))
  have HOA0 := Lib.hid (fun (wx : World) (h : St w sl pre wx) (r : Int) => World.ownsRow.alloc h.1 (.cells #[.int .u16 r] 33))
  clear hI hJ e1 hnx
  go_wp2_with fail
  refine (dec37 _ wr HTr.out 92 1 HD.out.1 HD.out.2).mono ?_
  rintro e w1 ⟨rfl, be1⟩
  have HS1 := Lib.hid (HS.out.next be1); have HT1 := Lib.hid (tabs_below HTr.out be1)
  clear be1
  dsimp only
  go_wp2_with fail
  refine (dec37 _ w1 HT1.out 116 1 HD1.out.1 HD1.out.2).mono ?_
  rintro e w2 ⟨rfl, be2⟩
  have HS2 := Lib.hid (HS1.out.next be2); have HT2 := Lib.hid (tabs_below HT1.out be2)
  clear be2
  dsimp only
  have HOA := Lib.hid (HOA0.out w2 HS2.out 9)
  have j68 := HJ.out w2 HS2.out.2
  go_wp2_with (at_builtin; refine wpList_append_own _ rfl _ _ 22 rfl w.heap.size 33 i0 (.int .u16 0) 1 2 Tryf.underlying22 hin hz0 hz1 hz2 rfl (by decide) sl pre.length (cellsU pre) rfl HOA.out ⟨w2.heap.size, 0, none⟩ 1 1 [.int .u16 9] rfl rfl (cell_one _ _ _) (by intro u hu; simp at hu; subst hu; rfl) (by unfold maxLen; omega) (by omega) (by have := HS2.out.2.size; simp; omega) ?_; intro v1 w1x hown1 hg1 hnil1; have OA1 := Lib.hid (own_app hown1); have KA1 := Lib.hid (HS2.out.2.trans ((below_alloc1 w2 w.heap.size HS2.out.2.size _).trans (below_grown hg1 w.heap.size (by have := HS2.out.2.size; simp; omega) HS2.out.1.lt))); clear hown1 hg1 hnil1)
  refine ⟨WC18.intro v1 J ⟨pre ++ [9], rest', hJs, OA1.out, KA1.out, by have := HJI.out; simp; omega, by rw [HJN.out]; exact HC'.out, by rw [← HU.out]; simp, OA1.out.nn (by simp)⟩ (by kernel_rfl), ?_⟩
  have := HJI.out
  simp [mu18, intOf]; omega
set_option maxRecDepth 1000000 in
set_option maxHeartbeats 32000000 in
theorem way_e118 (g : Nat) (st : Int) (s : ByteArray) (re : Bool) (w : World) (hs : s.size ≤ 1048576) (hst0 : 0 ≤ st) (hst1 : st ≤ 1048576) (HT : Hid (Lib.Utf8Tabs 0 1 w)) (HJ : Hid (∀ (wx : World), Below w.heap.size w wx → wx.cell? ⟨g, 68, none⟩ = some (.int .u8 2))) (xs : List Int) (i0 : TypeInfo) (hin : Tryf.prog.info? 33 = some i0) (hz0 : i0.zero = some (.int .u16 0)) (hz1 : i0.size = 1) (hz2 : i0.bytes = 2) (wr : World) (sl : Value) (i : Nat) (us : Nat → Value) (pre rest' : List Int) (hi : i ≤ s.size) (hpl : pre.length ≤ i) (HS : Hid (St w sl pre wr)) (HTr : Hid (Lib.Utf8Tabs 0 1 wr)) (HN : Hid (NN sl)) (hlt : i < s.size) (nx : Nat) (HC' : Hid (Ch32 s nx rest')) (HJS : Hid (i < nx ∧ nx ≤ s.size)) (I : Nat) (hIs : I ≤ s.size) (h2 : i + 2 ≤ s.size) (hI : i + 1 = I) (hI' : (i : Int) + 1 = (I : Int)) (HD : Hid ((decodeGo (s.extract i s.size)).1 = 92 ∧ (decodeGo (s.extract i s.size)).2 = 1)) (HU : Hid (pre ++ ([(11 : Int)] ++ rest') = xs)) (e1 : byt s I = 118) (hnx : nx = i + 2) (Q : Exit → Act → World → Prop) :
    Code.wp Tryf.prog body18 (Exit.then (fun a' w' => WC18 g st s re w xs a' w' ∧ mu18 s a' w' < mu18 s (fr18 g st s re sl i us) wr) Q) (fr18 g st s re sl i us) wr := by
  conv in body18 => whnf
  unfold fr18
  obtain ⟨J, hJ⟩ : ∃ J, I + 1 = J := ⟨_, rfl⟩
  have hJ' : (I : Int) + 1 = (J : Int) := by omega
  have hJs : J ≤ s.size := by omega
  have HJI := Lib.hid (show J = i + 2 by omega)
  have HJN := Lib.hid (show J = nx by omega)
  have hIl : I < s.size := by omega
  have HD1 := Lib.hid (dec_b s I 118 hIl e1 (by omega))
  have HOA0 := Lib.hid (fun (wx : World) (h : St w sl pre wx) (r : Int) => World.ownsRow.alloc h.1 (.cells #[.int .u16 r] 33))
  clear hI hJ e1 hnx
  go_wp2_with fail
  refine (dec37 _ wr HTr.out 92 1 HD.out.1 HD.out.2).mono ?_
  rintro e w1 ⟨rfl, be1⟩
  have HS1 := Lib.hid (HS.out.next be1); have HT1 := Lib.hid (tabs_below HTr.out be1)
  clear be1
  dsimp only
  go_wp2_with fail
  refine (dec37 _ w1 HT1.out 118 1 HD1.out.1 HD1.out.2).mono ?_
  rintro e w2 ⟨rfl, be2⟩
  have HS2 := Lib.hid (HS1.out.next be2); have HT2 := Lib.hid (tabs_below HT1.out be2)
  clear be2
  dsimp only
  have HOA := Lib.hid (HOA0.out w2 HS2.out 11)
  have j68 := HJ.out w2 HS2.out.2
  go_wp2_with (at_builtin; refine wpList_append_own _ rfl _ _ 22 rfl w.heap.size 33 i0 (.int .u16 0) 1 2 Tryf.underlying22 hin hz0 hz1 hz2 rfl (by decide) sl pre.length (cellsU pre) rfl HOA.out ⟨w2.heap.size, 0, none⟩ 1 1 [.int .u16 11] rfl rfl (cell_one _ _ _) (by intro u hu; simp at hu; subst hu; rfl) (by unfold maxLen; omega) (by omega) (by have := HS2.out.2.size; simp; omega) ?_; intro v1 w1x hown1 hg1 hnil1; have OA1 := Lib.hid (own_app hown1); have KA1 := Lib.hid (HS2.out.2.trans ((below_alloc1 w2 w.heap.size HS2.out.2.size _).trans (below_grown hg1 w.heap.size (by have := HS2.out.2.size; simp; omega) HS2.out.1.lt))); clear hown1 hg1 hnil1)
  refine ⟨WC18.intro v1 J ⟨pre ++ [11], rest', hJs, OA1.out, KA1.out, by have := HJI.out; simp; omega, by rw [HJN.out]; exact HC'.out, by rw [← HU.out]; simp, OA1.out.nn (by simp)⟩ (by kernel_rfl), ?_⟩
  have := HJI.out
  simp [mu18, intOf]; omega
set_option maxRecDepth 1000000 in
set_option maxHeartbeats 32000000 in
theorem way_crlf (g : Nat) (st : Int) (s : ByteArray) (re : Bool) (w : World) (hs : s.size ≤ 1048576) (hst0 : 0 ≤ st) (hst1 : st ≤ 1048576) (HT : Hid (Lib.Utf8Tabs 0 1 w)) (HJ : Hid (∀ (wx : World), Below w.heap.size w wx → wx.cell? ⟨g, 68, none⟩ = some (.int .u8 2))) (xs : List Int) (i0 : TypeInfo) (hin : Tryf.prog.info? 33 = some i0) (hz0 : i0.zero = some (.int .u16 0)) (hz1 : i0.size = 1) (hz2 : i0.bytes = 2) (wr : World) (sl : Value) (i : Nat) (us : Nat → Value) (pre rest' : List Int) (hi : i ≤ s.size) (hpl : pre.length ≤ i) (HS : Hid (St w sl pre wr)) (HTr : Hid (Lib.Utf8Tabs 0 1 wr)) (HN : Hid (NN sl)) (hlt : i < s.size) (nx : Nat) (HC' : Hid (Ch32 s nx rest')) (HJS : Hid (i < nx ∧ nx ≤ s.size)) (I : Nat) (hIs : I ≤ s.size) (h2 : i + 2 ≤ s.size) (hI : i + 1 = I) (hI' : (i : Int) + 1 = (I : Int)) (HD : Hid ((decodeGo (s.extract i s.size)).1 = 92 ∧ (decodeGo (s.extract i s.size)).2 = 1)) (HU : Hid (pre ++ (([] : List Int) ++ rest') = xs)) (p2 : byt s (i + 1) = 13) (p0 : i + 2 < s.size) (p3 : byt s (i + 2) = 10) (hnx : nx = i + 3) (Q : Exit → Act → World → Prop) :
    Code.wp Tryf.prog body18 (Exit.then (fun a' w' => WC18 g st s re w xs a' w' ∧ mu18 s a' w' < mu18 s (fr18 g st s re sl i us) wr) Q) (fr18 g st s re sl i us) wr := by
  conv in body18 => whnf
  unfold fr18
  have HD1 := Lib.hid (dec_b s I 13 (by omega) (by rw [← hI]; exact p2) (by omega))
  obtain ⟨J, hJ⟩ : ∃ J, I + 1 = J := ⟨_, rfl⟩
  have hJ' : (I : Int) + 1 = (J : Int) := by omega
  have hJs : J ≤ s.size := by omega
  have HJI := Lib.hid (show J = i + 2 by omega)
  obtain ⟨J2, hJ2⟩ : ∃ J2, J + 1 = J2 := ⟨_, rfl⟩
  have hJ2' : (J : Int) + 1 = (J2 : Int) := by omega
  have hJl : J < s.size := by omega
  have hJ2s : J2 ≤ s.size := by omega
  have HJ2I := Lib.hid (show J2 = i + 3 by omega)
  have HJN := Lib.hid (show J2 = nx by omega)
  have hq : ((s[J]'hJl).toNat : Int) = 10 := by rw [byt_at s J hJl, HJI.out, p3]; rfl
  clear p2 p3 hI hJ hJ2 hnx
  go_wp2_with fail
  refine (dec37 _ wr HTr.out 92 1 HD.out.1 HD.out.2).mono ?_
  rintro e w1 ⟨rfl, be1⟩
  have HS1 := Lib.hid (HS.out.next be1); have HT1 := Lib.hid (tabs_below HTr.out be1)
  clear be1
  dsimp only
  go_wp2_with fail
  refine (dec37 _ w1 HT1.out 13 1 HD1.out.1 HD1.out.2).mono ?_
  rintro e w2 ⟨rfl, be2⟩
  have HS2 := Lib.hid (HS1.out.next be2); have HT2 := Lib.hid (tabs_below HT1.out be2)
  clear be2
  dsimp only
  have j68 := HJ.out w2 HS2.out.2
  go_wp2_with fail
  refine ⟨WC18.intro sl J2 ⟨pre, rest', hJ2s, HS2.out.1, HS2.out.2, by have := HJ2I.out; omega, by rw [HJN.out]; exact HC'.out, by rw [← HU.out]; simp, HN.out⟩ (by kernel_rfl), ?_⟩
  have := HJ2I.out
  simp [mu18, intOf]; omega
set_option maxRecDepth 1000000 in
set_option maxHeartbeats 32000000 in
theorem way_cr (g : Nat) (st : Int) (s : ByteArray) (re : Bool) (w : World) (hs : s.size ≤ 1048576) (hst0 : 0 ≤ st) (hst1 : st ≤ 1048576) (HT : Hid (Lib.Utf8Tabs 0 1 w)) (HJ : Hid (∀ (wx : World), Below w.heap.size w wx → wx.cell? ⟨g, 68, none⟩ = some (.int .u8 2))) (xs : List Int) (i0 : TypeInfo) (hin : Tryf.prog.info? 33 = some i0) (hz0 : i0.zero = some (.int .u16 0)) (hz1 : i0.size = 1) (hz2 : i0.bytes = 2) (wr : World) (sl : Value) (i : Nat) (us : Nat → Value) (pre rest' : List Int) (hi : i ≤ s.size) (hpl : pre.length ≤ i) (HS : Hid (St w sl pre wr)) (HTr : Hid (Lib.Utf8Tabs 0 1 wr)) (HN : Hid (NN sl)) (hlt : i < s.size) (nx : Nat) (HC' : Hid (Ch32 s nx rest')) (HJS : Hid (i < nx ∧ nx ≤ s.size)) (I : Nat) (hIs : I ≤ s.size) (h2 : i + 2 ≤ s.size) (hI : i + 1 = I) (hI' : (i : Int) + 1 = (I : Int)) (HD : Hid ((decodeGo (s.extract i s.size)).1 = 92 ∧ (decodeGo (s.extract i s.size)).2 = 1)) (HU : Hid (pre ++ (([] : List Int) ++ rest') = xs)) (p2 : byt s (i + 1) = 13) (p3 : byt s (i + 2) ≠ 10) (hnx : nx = i + 2) (Q : Exit → Act → World → Prop) :
    Code.wp Tryf.prog body18 (Exit.then (fun a' w' => WC18 g st s re w xs a' w' ∧ mu18 s a' w' < mu18 s (fr18 g st s re sl i us) wr) Q) (fr18 g st s re sl i us) wr := by
  conv in body18 => whnf
  unfold fr18
  have HD1 := Lib.hid (dec_b s I 13 (by omega) (by rw [← hI]; exact p2) (by omega))
  obtain ⟨J, hJ⟩ : ∃ J, I + 1 = J := ⟨_, rfl⟩
  have hJ' : (I : Int) + 1 = (J : Int) := by omega
  have hJs : J ≤ s.size := by omega
  have HJI := Lib.hid (show J = i + 2 by omega)
  have HJN := Lib.hid (show J = nx by omega)
  by_cases hJl : J < s.size
  · have hq : (((s[J]'hJl).toNat : Int) == 10) = false := by rw [byt_at s J hJl, HJI.out]; exact ne_b _ 10 (by omega)
    clear p2 p3 hI hJ hnx
    go_wp2_with fail
    refine (dec37 _ wr HTr.out 92 1 HD.out.1 HD.out.2).mono ?_
    rintro e w1 ⟨rfl, be1⟩
    have HS1 := Lib.hid (HS.out.next be1); have HT1 := Lib.hid (tabs_below HTr.out be1)
    clear be1
    dsimp only
    go_wp2_with fail
    refine (dec37 _ w1 HT1.out 13 1 HD1.out.1 HD1.out.2).mono ?_
    rintro e w2 ⟨rfl, be2⟩
    have HS2 := Lib.hid (HS1.out.next be2); have HT2 := Lib.hid (tabs_below HT1.out be2)
    clear be2
    dsimp only
    have j68 := HJ.out w2 HS2.out.2
    go_wp2_with fail
    refine ⟨WC18.intro sl J ⟨pre, rest', hJs, HS2.out.1, HS2.out.2, by have := HJI.out; omega, by rw [HJN.out]; exact HC'.out, by rw [← HU.out]; simp, HN.out⟩ (by kernel_rfl), ?_⟩
    have := HJI.out
    simp [mu18, intOf]; omega
  · have hJe : ¬ (J : Int) < (s.size : Int) := by omega
    clear p2 p3 hI hJ hnx
    go_wp2_with fail
    refine (dec37 _ wr HTr.out 92 1 HD.out.1 HD.out.2).mono ?_
    rintro e w1 ⟨rfl, be1⟩
    have HS1 := Lib.hid (HS.out.next be1); have HT1 := Lib.hid (tabs_below HTr.out be1)
    clear be1
    dsimp only
    go_wp2_with fail
    refine (dec37 _ w1 HT1.out 13 1 HD1.out.1 HD1.out.2).mono ?_
    rintro e w2 ⟨rfl, be2⟩
    have HS2 := Lib.hid (HS1.out.next be2); have HT2 := Lib.hid (tabs_below HT1.out be2)
    clear be2
    dsimp only
    have j68 := HJ.out w2 HS2.out.2
    go_wp2_with fail
    refine ⟨WC18.intro sl J ⟨pre, rest', hJs, HS2.out.1, HS2.out.2, by have := HJI.out; omega, by rw [HJN.out]; exact HC'.out, by rw [← HU.out]; simp, HN.out⟩ (by kernel_rfl), ?_⟩
    have := HJI.out
    simp [mu18, intOf]; omega
set_option maxRecDepth 1000000 in
set_option maxHeartbeats 32000000 in
theorem way_sep (g : Nat) (st : Int) (s : ByteArray) (re : Bool) (w : World) (hs : s.size ≤ 1048576) (hst0 : 0 ≤ st) (hst1 : st ≤ 1048576) (HT : Hid (Lib.Utf8Tabs 0 1 w)) (HJ : Hid (∀ (wx : World), Below w.heap.size w wx → wx.cell? ⟨g, 68, none⟩ = some (.int .u8 2))) (xs : List Int) (i0 : TypeInfo) (hin : Tryf.prog.info? 33 = some i0) (hz0 : i0.zero = some (.int .u16 0)) (hz1 : i0.size = 1) (hz2 : i0.bytes = 2) (wr : World) (sl : Value) (i : Nat) (us : Nat → Value) (pre rest' : List Int) (hi : i ≤ s.size) (hpl : pre.length ≤ i) (HS : Hid (St w sl pre wr)) (HTr : Hid (Lib.Utf8Tabs 0 1 wr)) (HN : Hid (NN sl)) (hlt : i < s.size) (nx : Nat) (HC' : Hid (Ch32 s nx rest')) (HJS : Hid (i < nx ∧ nx ≤ s.size)) (I : Nat) (hIs : I ≤ s.size) (h2 : i + 2 ≤ s.size) (hI : i + 1 = I) (hI' : (i : Int) + 1 = (I : Int)) (HD : Hid ((decodeGo (s.extract i s.size)).1 = 92 ∧ (decodeGo (s.extract i s.size)).2 = 1)) (HU : Hid (pre ++ (([] : List Int) ++ rest') = xs)) (C K : Nat) (hdC : decodeGo (s.extract (i + 1) s.size) = (C, K)) (hC : C = 10 ∨ C = 8232 ∨ C = 8233) (hnx : nx = i + 1 + K) (Q : Exit → Act → World → Prop) :
    Code.wp Tryf.prog body18 (Exit.then (fun a' w' => WC18 g st s re w xs a' w' ∧ mu18 s a' w' < mu18 s (fr18 g st s re sl i us) wr) Q) (fr18 g st s re sl i us) wr := by
  conv in body18 => whnf
  unfold fr18
  obtain ⟨x1, x2, x3⟩ := dec_wid s I (by omega)
  rw [show i + 1 = I from hI] at hdC
  rw [hdC] at x1 x2 x3
  have HDC := Lib.hid (show (decodeGo (s.extract I s.size)).1 = C ∧ (decodeGo (s.extract I s.size)).2 = K by rw [hdC]; exact ⟨rfl, rfl⟩)
  obtain ⟨J, hJ⟩ : ∃ J, I + K = J := ⟨_, rfl⟩
  have hJ' : (I : Int) + (K : Int) = (J : Int) := by omega
  have hJs : J ≤ s.size := by omega
  have HJJ := Lib.hid (show i + 1 + K = J by omega)
  dsimp only at x1 x2 x3
  have hiJ : i < J := by omega
  have HJN := Lib.hid (show J = nx by omega)
  clear hdC hI x1 x3 hJ hnx
  go_wp2_with fail
  refine (dec37 _ wr HTr.out 92 1 HD.out.1 HD.out.2).mono ?_
  rintro e w1 ⟨rfl, be1⟩
  have HS1 := Lib.hid (HS.out.next be1); have HT1 := Lib.hid (tabs_below HTr.out be1)
  clear be1
  dsimp only
  go_wp2_with fail
  refine (dec37 _ w1 HT1.out C K HDC.out.1 HDC.out.2).mono ?_
  rintro e w2 ⟨rfl, be2⟩
  have HS2 := Lib.hid (HS1.out.next be2); have HT2 := Lib.hid (tabs_below HT1.out be2)
  clear be2
  dsimp only
  have j68 := HJ.out w2 HS2.out.2
  rcases hC with rfl | rfl | rfl
  all_goals
    go_wp2_with fail
    refine ⟨WC18.intro sl J ⟨pre, rest', hJs, HS2.out.1, HS2.out.2, by omega, by rw [HJN.out]; exact HC'.out, by rw [← HU.out]; simp, HN.out⟩ (by kernel_rfl), ?_⟩
    simp [mu18, intOf]; omega
end Go.Proofs.YtemneajjdbbgoaaFmt
