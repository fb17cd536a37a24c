/-
  tryToDecodeEscapeSequences on plain ASCII and a bad escape behind it.
-/
import Derived.Test.YtcnembabenlheaaDoorT2
namespace Go.Proofs.YtcnembabenlheaaDoor
open Go.ChangeShapes Go.WideShapes Go.ChangeAt Go.RowKit
open Go.Lib (decodeN decode_at decodeGo)
set_option linter.unusedVariables false
def RelB (w : World) (n : Nat) (sl : Value) (i : Nat) (w' : World) : Prop := ∃ (pre : List Int), i ≤ n ∧ OwnU w' w.heap.size sl pre ∧ Below w.heap.size w w' ∧ pre.length ≤ i
def WB32 (p : Value) (st : Int) (s : ByteArray) (re : Bool) (w : World) (n : Nat) (a : Act) (w' : World) : Prop := ∃ (sl : Value) (i : Nat), ∃ us : Nat → Value, RelB w n sl i w' ∧ a = fr32 p st s re sl i us
theorem WB32.intro {p : Value} {st : Int} {s : ByteArray} {re : Bool} {w : World} {n : Nat} {a : Act} {w' : World} (sl : Value) (i : Nat) (hr : RelB w n sl i w') (h : a = fr32 p st s re sl i (fun k => a.tmps.getD k undef)) : WB32 p st s re w n a w' := ⟨sl, i, _, hr, h⟩
/-- the rune at a place whose byte is under 128 -/
theorem dec_b (s : ByteArray) (i b : Nat) (h : i < s.size) (hb : byt s i = b) (hl : b < 128) : (decodeGo (s.extract i s.size)).1 = b ∧ (decodeGo (s.extract i s.size)).2 = 1 := by
  have := dec_low s i h (by omega)
  rw [this, hb]; exact ⟨rfl, rfl⟩
set_option maxRecDepth 1000000 in
set_option maxHeartbeats 8000000 in
theorem bx32 (g : Nat) (st : Int) (hst0 : 0 ≤ st) (hst1 : st ≤ 4194304) (s : ByteArray) (n : Nat) (w : World) (hT : Lib.Utf8Tabs 0 1 w) (hs : s.size ≤ 1048576) (hpl : ∀ i, i < n → byt s i < 128 ∧ byt s i ≠ 92 ∧ byt s i ≠ 13) (hj : w.cell? ⟨g, 68, none⟩ = some (.int .u8 2)) (hn : n + 2 < s.size) (h0 : byt s n = 92) (h1 : byt s (n + 1) = 120) (h2 : byt s (n + 2) = 103) :
    Calls Tryd.prog 32 #[.pointer (some ⟨g, 0, none⟩), .int .i64 st, .string s, .bool false] w fun e w' => (∃ X, e = .returned (.tuple #[.slice none 0 0, .bool false, .int .i64 X])) ∧ Below w.heap.size w w' := by
  obtain ⟨i0, hin, hz0, hz1, hz2⟩ := info_parts infoU
  have HT := Lib.hid hT; have HPL := Lib.hid hpl
  have HD0 := Lib.hid (dec_b s n 92 (by omega) h0 (by omega)); have HD1 := Lib.hid (dec_b s (n + 1) 120 (by omega) h1 (by omega)); have HD2 := Lib.hid (dec_b s (n + 2) 103 (by omega) h2 (by omega))
  have HJ := Lib.hid hj
  clear hT hpl h0 h1 h2 hj
  go_enter Tryd.func32, Tryd.ntmps32
  go_wp2_with fail
  refine wp_loop (WB32 (.pointer (some ⟨g, 0, none⟩)) st s false w n) (mu32 s) ?start ?round
  case start =>
    refine WB32.intro (.slice (some ⟨w.heap.size, 0, none⟩) 0 0) 0 ⟨[], by omega, ?_, (Below.refl _ _).alloc (Nat.le_refl _) _, by simp⟩ (by kernel_rfl)
    exact ⟨by simp [cellsU], Or.inr ⟨w.heap.size, 0, #[], rfl, Nat.le_refl _, heap_alloc_new _ _, by simp, by unfold maxLen; omega, by simp, by simp [cellsU]⟩⟩
  case round =>
    rintro a wr ⟨sl, i, us, hrel, rfl⟩
    obtain ⟨pre, hi, hO, hB, hpl⟩ := hrel
    have HO := Lib.hid hO; have KB := Lib.hid hB; have HTr := Lib.hid (tabs_below HT.out hB)
    clear hO hB
    unfold fr32
    have hlt : i < s.size := by omega
    by_cases hin' : i < n
    · obtain ⟨p1, p2, p3⟩ := HPL.out i hin'
      have hdd := dec_b s i _ hlt rfl p1
      obtain ⟨C, hC⟩ : ∃ C, byt s i = C := ⟨_, rfl⟩
      rw [hC] at hdd p1 p2 p3
      obtain ⟨Y, hY⟩ : ∃ Y, s.extract i s.size = Y := ⟨_, rfl⟩
      rw [hY] at hdd
      have HDD := Lib.hid hdd; have HY := Lib.hid hY
      obtain ⟨I, hI⟩ : ∃ I, i + 1 = I := ⟨_, rfl⟩
      have hI' : (i : Int) + 1 = (I : Int) := by omega
      obtain ⟨R, hR⟩ : ∃ R : Int, (C : Int) = R := ⟨_, rfl⟩
      have q92 : (R == 92) = false := by rw [beq_eq_false_iff_ne]; omega
      have q13 : (R == 13) = false := by rw [beq_eq_false_iff_ne]; omega
      have t1 : decide (R ≤ 65535) = true := by simp; omega
      have hw : IntKind.u16.wrap R = R := by rw [IntKind.wrap_u16]; omega
      have HR := Lib.hid hR
      clear hdd hY hC hR p1 p2 p3
      go_wp2_with fail
      rw [HY.out]
      refine (dec37 Y wr HTr.out C 1 HDD.out.1 HDD.out.2).mono ?_
      rintro e w1 ⟨rfl, be1⟩
      have KB1 := Lib.hid (KB.out.trans (be1.mono KB.out.size)); have HO1 := Lib.hid (HO.out.keep be1)
      clear be1
      rw [HR.out]
      dsimp only
      have HOA := Lib.hid (World.ownsRow.alloc HO1.out (.cells #[.int .u16 R] 30))
      go_wp2_with (at_builtin; refine wpList_append_own _ rfl _ _ 29 rfl w.heap.size 30 i0 (.int .u16 0) 1 2 Tryd.underlying29 hin hz0 hz1 hz2 rfl (by decide) sl pre.length (cellsU pre) rfl HOA.out ⟨w1.heap.size, 0, none⟩ 1 1 [.int .u16 R] rfl rfl (cell_one _ _ _) (by intro u hu; simp at hu; subst hu; rfl) (by unfold maxLen; omega) (by omega) (by have := KB1.out.size; simp; omega) ?_; intro v1 w2 hown1 hg1 hnil1; have OA1 := Lib.hid (own_app hown1); have KA1 := Lib.hid (KB1.out.trans ((below_alloc1 w1 w.heap.size KB1.out.size _).trans (below_grown hg1 w.heap.size (by have := KB1.out.size; simp; omega) HO1.out.lt))); clear hown1 hg1 hnil1)
      refine ⟨WB32.intro v1 I ⟨pre ++ [R], by omega, OA1.out, KA1.out, by simp; omega⟩ (by kernel_rfl), ?_⟩
      simp [mu32, intOf]; omega
    · obtain rfl : i = n := by omega
      obtain ⟨Y, hY⟩ : ∃ Y, s.extract i s.size = Y := ⟨_, rfl⟩
      obtain ⟨I, hI⟩ : ∃ I, i + 1 = I := ⟨_, rfl⟩
      have hI' : (i : Int) + 1 = (I : Int) := by omega
      rw [hY] at HD0
      rw [hI] at HD1
      have hIs : I < s.size := by omega
      have HY := Lib.hid hY
      clear hY
      go_wp2_with fail
      rw [HY.out]
      refine (dec37 Y wr HTr.out 92 1 HD0.out.1 HD0.out.2).mono ?_
      rintro e w1 ⟨rfl, be1⟩
      have KB1 := Lib.hid (KB.out.trans (be1.mono KB.out.size)); have HT1 := Lib.hid (tabs_below HTr.out be1)
      clear be1
      dsimp only
      go_wp2_with fail
      refine (dec37 _ w1 HT1.out 120 1 HD1.out.1 HD1.out.2).mono ?_
      rintro e w2 ⟨rfl, be2⟩
      have KB2 := Lib.hid (KB1.out.trans (be2.mono KB1.out.size)); have HT2 := Lib.hid (tabs_below HT1.out be2)
      clear be2
      obtain ⟨J, hJ⟩ : ∃ J, I + 1 = J := ⟨_, rfl⟩
      have hJ' : (I : Int) + 1 = (J : Int) := by omega
      rw [show i + 2 = J by omega] at HD2
      have hJs : J < s.size := by omega
      have hj2 : w2.cell? ⟨g, 68, none⟩ = some (.int .u8 2) := (KB2.out.cell (block_lt_of_cell HJ.out)).trans HJ.out
      dsimp only
      go_wp2_with fail
      refine wp_loop (fun a w' => a = _ ∧ w' = _) (fun _ _ => 0) ⟨rfl, rfl⟩ ?_
      rintro a wq ⟨rfl, rfl⟩
      go_wp2_with fail
      refine (dec37 _ _ HT2.out 103 1 HD2.out.1 HD2.out.2).mono ?_
      rintro e w3 ⟨rfl, be3⟩
      have KB3 := Lib.hid (KB2.out.trans (be3.mono KB2.out.size))
      clear be3
      dsimp only
      go_wp2_with fail
      go_ret3
      exact ⟨⟨_, rfl⟩, KB3.out⟩
end Go.Proofs.YtcnembabenlheaaDoor
