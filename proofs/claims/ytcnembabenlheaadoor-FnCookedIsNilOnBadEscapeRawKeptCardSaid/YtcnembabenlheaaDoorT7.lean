/-
  tryToDecodeEscapeSequences on plain ASCII and a bad u escape behind it (a bad digit in braces).
-/
import Derived.Test.YtcnembabenlheaaDoorT4
import Derived.LoopN
import Derived.WalkMore
namespace Go.Proofs.YtcnembabenlheaaDoor
open Go.ChangeShapes Go.WideShapes Go.ChangeAt Go.RowKit
open Go.Lib (decodeN decode_at decodeGo)
set_option linter.unusedVariables false
set_option maxRecDepth 1000000 in
set_option maxHeartbeats 8000000 in
theorem bg32 (g : Nat) (st : Int) (hst0 : 0 ≤ st) (hst1 : st ≤ 4194304) (s : ByteArray) (n : Nat) (w : World) (hT : Lib.Utf8Tabs 0 1 w) (hs : s.size ≤ 1048576) (hpl : ∀ i, i < n → byt s i < 128 ∧ byt s i ≠ 92 ∧ byt s i ≠ 13) (hj : w.cell? ⟨g, 68, none⟩ = some (.int .u8 2)) (hn : n + 4 < s.size) (h0 : byt s n = 92) (h1 : byt s (n + 1) = 117) (h2 : byt s (n + 2) = 123) (h3 : byt s (n + 3) = 49) (h4 : byt s (n + 4) = 103) :
    Calls Tryd.prog 32 #[.pointer (some ⟨g, 0, none⟩), .int .i64 st, .string s, .bool false] w fun e w' => (∃ X, e = .returned (.tuple #[.slice none 0 0, .bool false, .int .i64 X])) ∧ Below w.heap.size w w' := by
  obtain ⟨i0, hin, hz0, hz1, hz2⟩ := info_parts infoU
  have HT := Lib.hid hT; have HPL := Lib.hid hpl
  have HD0 := Lib.hid (dec_b s n 92 (by omega) h0 (by omega)); have HD1 := Lib.hid (dec_b s (n + 1) 117 (by omega) h1 (by omega)); have HD2 := Lib.hid (dec_b s (n + 2) 123 (by omega) h2 (by omega)); have HD3 := Lib.hid (dec_b s (n + 3) 49 (by omega) h3 (by omega)); have HD4 := Lib.hid (dec_b s (n + 4) 103 (by omega) h4 (by omega))
  have HJ := Lib.hid hj
  clear hT hpl h0 h1 h2 h3 h4 hj
  go_enter Tryd.func32, Tryd.ntmps32
  go_wp2_with fail
  refine wp_loop (WB32 (.pointer (some ⟨g, 0, none⟩)) st s false w n) (mu32 s) ?start ?round
  case start =>
    refine WB32.intro (.slice (some ⟨w.heap.size, 0, none⟩) 0 0) 0 ⟨[], by omega, ?_, (Below.refl _ _).alloc (Nat.le_refl _) _, by simp⟩ (by kernel_rfl)
    exact ⟨by simp [cellsU], Or.inr ⟨w.heap.size, 0, #[], rfl, Nat.le_refl _, heap_alloc_new _ _, by simp, by unfold maxLen; omega, by simp, by simp [cellsU]⟩⟩
  case round =>
    rintro a wr ⟨sl, i, us, hrel, rfl⟩
    obtain ⟨pre, hi, hO, hB, hpl⟩ := hrel
    have HO := Lib.hid hO; have KB := Lib.hid hB; have HTr := Lib.hid (tabs_below HT.out hB)
    clear hO hB
    unfold fr32
    have hlt : i < s.size := by omega
    by_cases hin' : i < n
    · obtain ⟨p1, p2, p3⟩ := HPL.out i hin'
      have hdd := dec_b s i _ hlt rfl p1
      obtain ⟨C, hC⟩ : ∃ C, byt s i = C := ⟨_, rfl⟩
      rw [hC] at hdd p1 p2 p3
      obtain ⟨Y, hY⟩ : ∃ Y, s.extract i s.size = Y := ⟨_, rfl⟩
      rw [hY] at hdd
      have HDD := Lib.hid hdd; have HY := Lib.hid hY
      obtain ⟨I, hI⟩ : ∃ I, i + 1 = I := ⟨_, rfl⟩
      have hI' : (i : Int) + 1 = (I : Int) := by omega
      obtain ⟨R, hR⟩ : ∃ R : Int, (C : Int) = R := ⟨_, rfl⟩
      have q92 : (R == 92) = false := by rw [beq_eq_false_iff_ne]; omega
      have q13 : (R == 13) = false := by rw [beq_eq_false_iff_ne]; omega
      have t1 : decide (R ≤ 65535) = true := by simp; omega
      have hw : IntKind.u16.wrap R = R := by rw [IntKind.wrap_u16]; omega
      have HR := Lib.hid hR
      clear hdd hY hC hR p1 p2 p3
      go_wp2_with fail
      rw [HY.out]
      refine (dec37 Y wr HTr.out C 1 HDD.out.1 HDD.out.2).mono ?_
      rintro e w1 ⟨rfl, be1⟩
      have KB1 := Lib.hid (KB.out.trans (be1.mono KB.out.size)); have HO1 := Lib.hid (HO.out.keep be1)
      clear be1
      rw [HR.out]
      dsimp only
      have HOA := Lib.hid (World.ownsRow.alloc HO1.out (.cells #[.int .u16 R] 30))
      go_wp2_with (at_builtin; refine wpList_append_own _ rfl _ _ 29 rfl w.heap.size 30 i0 (.int .u16 0) 1 2 Tryd.underlying29 hin hz0 hz1 hz2 rfl (by decide) sl pre.length (cellsU pre) rfl HOA.out ⟨w1.heap.size, 0, none⟩ 1 1 [.int .u16 R] rfl rfl (cell_one _ _ _) (by intro u hu; simp at hu; subst hu; rfl) (by unfold maxLen; omega) (by omega) (by have := KB1.out.size; simp; omega) ?_; intro v1 w2 hown1 hg1 hnil1; have OA1 := Lib.hid (own_app hown1); have KA1 := Lib.hid (KB1.out.trans ((below_alloc1 w1 w.heap.size KB1.out.size _).trans (below_grown hg1 w.heap.size (by have := KB1.out.size; simp; omega) HO1.out.lt))); clear hown1 hg1 hnil1)
      refine ⟨WB32.intro v1 I ⟨pre ++ [R], by omega, OA1.out, KA1.out, by simp; omega⟩ (by kernel_rfl), ?_⟩
      simp [mu32, intOf]; omega
    · obtain rfl : i = n := by omega
      obtain ⟨Y, hY⟩ : ∃ Y, s.extract i s.size = Y := ⟨_, rfl⟩
      obtain ⟨I, hI⟩ : ∃ I, i + 1 = I := ⟨_, rfl⟩
      have hI' : (i : Int) + 1 = (I : Int) := by omega
      rw [hY] at HD0
      rw [hI] at HD1
      have hIs : I < s.size := by omega
      have HY := Lib.hid hY
      clear hY
      go_wp2_with fail
      rw [HY.out]
      refine (dec37 Y wr HTr.out 92 1 HD0.out.1 HD0.out.2).mono ?_
      rintro e w1 ⟨rfl, be1⟩
      have KB1 := Lib.hid (KB.out.trans (be1.mono KB.out.size)); have HT1 := Lib.hid (tabs_below HTr.out be1)
      clear be1
      dsimp only
      go_wp2_with fail
      have o1 : bits .or .i32 0 1 = 1 := by decide
      have o2 : bits .or .i32 16 2 = 18 := by decide
      refine (dec37 _ _ HT1.out 117 1 HD1.out.1 HD1.out.2).mono ?_
      rintro e wd1 ⟨rfl, bd1⟩
      have KBd1 := Lib.hid (KB1.out.trans (bd1.mono KB1.out.size)); have HTd1 := Lib.hid (tabs_below HT1.out bd1)
      clear bd1
      have hj1 : wd1.cell? ⟨g, 68, none⟩ = some (.int .u8 2) := (KBd1.out.cell (block_lt_of_cell HJ.out)).trans HJ.out
      obtain ⟨J1, hJ1⟩ : ∃ J, I + 1 = J := ⟨_, rfl⟩
      have hJ1' : (I : Int) + 1 = (J1 : Int) := by omega
      have HD2 := Lib.hid (show (decodeGo (s.extract J1 s.size)).1 = 123 ∧ (decodeGo (s.extract J1 s.size)).2 = 1 by have h := HD2.out; rw [show i + 2 = J1 by omega] at h; exact h)
      have hJ1s : J1 < s.size := by omega
      dsimp only
      go_wp2_with fail
      refine (dec37 _ _ HTd1.out 123 1 HD2.out.1 HD2.out.2).mono ?_
      rintro e wd2 ⟨rfl, bd2⟩
      have KBd2 := Lib.hid (KBd1.out.trans (bd2.mono KBd1.out.size)); have HTd2 := Lib.hid (tabs_below HTd1.out bd2)
      clear bd2
      have hj2 : wd2.cell? ⟨g, 68, none⟩ = some (.int .u8 2) := (KBd2.out.cell (block_lt_of_cell HJ.out)).trans HJ.out
      obtain ⟨J2, hJ2⟩ : ∃ J, J1 + 1 = J := ⟨_, rfl⟩
      have hJ2' : (J1 : Int) + 1 = (J2 : Int) := by omega
      have HD3 := Lib.hid (show (decodeGo (s.extract J2 s.size)).1 = 49 ∧ (decodeGo (s.extract J2 s.size)).2 = 1 by have h := HD3.out; rw [show i + 3 = J2 by omega] at h; exact h)
      have hJ2s : J2 < s.size := by omega
      dsimp only
      go_wp2_with fail
      go_step3
      go_wp2_with fail
      go_step3
      go_wp2_with fail
      refine wp_loop_rounds 2 ?_
      rw [rounds_succ]
      go_wp2_with fail
      refine (dec37 _ _ HTd2.out 49 1 HD3.out.1 HD3.out.2).mono ?_
      rintro e wd3 ⟨rfl, bd3⟩
      have KBd3 := Lib.hid (KBd2.out.trans (bd3.mono KBd2.out.size)); have HTd3 := Lib.hid (tabs_below HTd2.out bd3)
      clear bd3
      have hj3 : wd3.cell? ⟨g, 68, none⟩ = some (.int .u8 2) := (KBd3.out.cell (block_lt_of_cell HJ.out)).trans HJ.out
      obtain ⟨J3, hJ3⟩ : ∃ J, J2 + 1 = J := ⟨_, rfl⟩
      have hJ3' : (J2 : Int) + 1 = (J3 : Int) := by omega
      have HD4 := Lib.hid (show (decodeGo (s.extract J3 s.size)).1 = 103 ∧ (decodeGo (s.extract J3 s.size)).2 = 1 by have h := HD4.out; rw [show i + 4 = J3 by omega] at h; exact h)
      have hJ3s : J3 < s.size := by omega
      dsimp only
      go_wp2_with fail
      rw [rounds_succ]
      go_wp2_with fail
      refine (dec37 _ _ HTd3.out 103 1 HD4.out.1 HD4.out.2).mono ?_
      rintro e wd4 ⟨rfl, bd4⟩
      have KBd4 := Lib.hid (KBd3.out.trans (bd4.mono KBd3.out.size)); have HTd4 := Lib.hid (tabs_below HTd3.out bd4)
      clear bd4
      have hj4 : wd4.cell? ⟨g, 68, none⟩ = some (.int .u8 2) := (KBd4.out.cell (block_lt_of_cell HJ.out)).trans HJ.out
      dsimp only
      go_wp2_with fail
      (try simp only [Exit.inBlock, Exit.then])
      (try rw [Exit.noGoto_ret])
      (try simp only [Exit.inBlock, Exit.then])
      (try simp +zetaDelta only [Exit.inBlock, Exit.then])
      go_ret3
      exact ⟨⟨_, rfl⟩, KBd4.out⟩
end Go.Proofs.YtcnembabenlheaaDoor
