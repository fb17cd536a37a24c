/-
  computeLineAndColumn, forward.
-/
import Derived.Test.YtocciemgdikmjaaDoorS4
import Derived.BigQuiet
namespace Go.Proofs.YtocciemgdikmjaaDoor
open Go.ChangeShapes Go.WideShapes Go.ChangeAt Go.RowKit
open Go.Lib (decodeN decode_at decodeGo)
set_option linter.unusedVariables false
theorem results_tmp4 {fn : Func} {t u v x : Tmp} (h : fn.results = #[.tmp t, .tmp u, .tmp v, .tmp x]) (tmps : Array Value) (P : Program) (w : World) :
    (results fn tmps).run P w = .ok (.tuple #[tmps.getD t undef, tmps.getD u undef, tmps.getD v undef, tmps.getD x undef]) w := by
  simp [results, h]
set_option maxRecDepth 100000 in
set_option maxHeartbeats 4000000 in
theorem cl116 (w : World) (g : Nat) (s : ByteArray) (off : Nat) (h : TK w g s 0 0 0 0 true false) (w0 : World) (hT : Lib.Utf8Tabs 0 1 w0) (hbw : Below w0.heap.size w0 w) (lo : w0.heap.size ≤ g) (h0 : 0 < off) (h1 : off ≤ s.size) (hs : s.size ≤ 1048576) :
    Calls Tryd.prog 116 #[.pointer (some ⟨g, 22, none⟩), .int .i64 off] w fun e w' => ∃ i ln ls le : Nat, e = .returned (.tuple #[.int .i64 ln, .int .i64 ((off : Int) - (ls : Int)), .int .i64 ls, .int .i64 le]) ∧ ls ≤ le ∧ le ≤ s.size ∧ ln ≤ s.size ∧ TK w' g s i ln ls le true true ∧ Trk w w' g := by
  have HC := Lib.hid (st129 w g s off h w0 hT hbw lo h0 h1 hs)
  have HT := Lib.hid hT; have HBW := Lib.hid hbw; have LO := Lib.hid lo
  have HL := Lib.hid h.lt
  clear hT hbw lo h
  go_enter Tryd.func116, Tryd.ntmps116
  go_wp2_with fail
  refine HC.out.mono ?_
  rintro e w1 ⟨rfl, i, ln, ls, hi, hls, hln, tk, trk⟩
  have HTK := Lib.hid tk; have HTRK := Lib.hid trk
  have HT1 := Lib.hid (tabs_below HT.out (trk_below HBW.out trk LO.out (by have := HL.out; have := LO.out; omega)))
  obtain ⟨lt, c22, c23, c24, c25, c26, c27, c28, c29, c30, c31, fz⟩ := id tk
  clear tk trk HC HBW
  have HI := Lib.hid (And.intro hi (And.intro hls hln))
  have HW1 := Lib.hid lt
  dsimp only
  go_upto_block 2 with fail
  go_cut [13] (fun v wx => ∃ le : Nat, v = .int .i32 le ∧ Hid (i ≤ le ∧ le ≤ s.size ∧ Below w1.heap.size w1 wx))
  case first =>
    as_aux_lemma =>
    go_wp2_with fail
    go_loopg [13] (s.size - i) (fun n v wx => ∃ j : Nat, v = .int .i32 j ∧ j ≤ s.size ∧ Hid (n = s.size - j ∧ i ≤ j ∧ Below w1.heap.size w1 wx))
    case atStart => exact ⟨i, rfl, HI.out.1, Lib.hid ⟨rfl, Nat.le_refl _, Below.refl _ _⟩⟩
    case round =>
      obtain ⟨j, rfl, hj, HR⟩ := hrel
      by_cases hjs : j < s.size
      · have hwp := wid_pos s j hjs
        have hwl := wid_le s j hj
        obtain ⟨X, hX⟩ : ∃ X, s.extract j s.size = X := ⟨_, rfl⟩
        obtain ⟨C, hC⟩ : ∃ C, (decodeGo X).1 = C := ⟨_, rfl⟩
        obtain ⟨K, hK⟩ : ∃ K, (decodeGo X).2 = K := ⟨_, rfl⟩
        have hK4 : K ≤ 4 := by rw [← hK]; exact dec_le X
        have hw : wid s j = K := by unfold wid; rw [hX, hK]
        rw [hw] at hwp hwl
        obtain ⟨J, hJ⟩ : ∃ J, j + K = J := ⟨_, rfl⟩
        have hJ' : (j : Int) + (K : Int) = (J : Int) := by omega
        have hJs : J ≤ s.size := by omega
        have hjJ : j < J := by omega
        have HX := Lib.hid hX; have HC := Lib.hid hC; have HK := Lib.hid hK
        have HTr := Lib.hid (tabs_below HT1.out HR.out.2.2)
        clear hX hC hK hw hJ hwl c22 c23 c24 c25 c26 c27 c28 c29 c30 c31 fz lt
        go_wp2_with fail
        rw [HX.out]
        refine (dec_any X wr HTr.out C K HC.out HK.out).mono ?_
        rintro e w2 ⟨rfl, hb2⟩
        have HB2 := Lib.hid (HR.out.2.2.trans (hb2.mono HR.out.2.2.size))
        clear hb2
        obtain ⟨R, hR⟩ : ∃ R : Int, (C : Int) = R := ⟨_, rfl⟩
        rw [hR]
        clear hR
        dsimp only
        by_cases r10 : R = 10
        · have q10 : (R == 10) = true := by rw [beq_iff_eq]; exact r10
          clear r10
          go_wp2_with fail
          go_meet
          exact ⟨j, rfl, Lib.hid ⟨HR.out.2.1, hj, HB2.out⟩⟩
        have q10 : (R == 10) = false := by rw [beq_eq_false_iff_ne]; exact r10
        clear r10
        by_cases r13 : R = 13
        · have q13 : (R == 13) = true := by rw [beq_iff_eq]; exact r13
          clear r13
          go_wp2_with fail
          go_meet
          exact ⟨j, rfl, Lib.hid ⟨HR.out.2.1, hj, HB2.out⟩⟩
        have q13 : (R == 13) = false := by rw [beq_eq_false_iff_ne]; exact r13
        clear r13
        by_cases r8232 : R = 8232
        · have q8232 : (R == 8232) = true := by rw [beq_iff_eq]; exact r8232
          clear r8232
          go_wp2_with fail
          go_meet
          exact ⟨j, rfl, Lib.hid ⟨HR.out.2.1, hj, HB2.out⟩⟩
        have q8232 : (R == 8232) = false := by rw [beq_eq_false_iff_ne]; exact r8232
        clear r8232
        by_cases r8233 : R = 8233
        · have q8233 : (R == 8233) = true := by rw [beq_iff_eq]; exact r8233
          clear r8233
          go_wp2_with fail
          go_meet
          exact ⟨j, rfl, Lib.hid ⟨HR.out.2.1, hj, HB2.out⟩⟩
        have q8233 : (R == 8233) = false := by rw [beq_eq_false_iff_ne]; exact r8233
        clear r8233
        go_wp2_with fail
        go_roundg (s.size - J)
        case measure => have := HR.out.1; omega
        case rel => exact ⟨J, rfl, hJs, Lib.hid ⟨rfl, by have := HR.out.2.1; omega, HB2.out⟩⟩
      · go_wp2_with fail
        go_meet
        exact ⟨j, rfl, Lib.hid ⟨HR.out.2.1, hj, HR.out.2.2⟩⟩
  case rest =>
    obtain ⟨le, rfl, HR⟩ := hcut
    have hle : le ≤ s.size := HR.out.2.1
    have HTK2 := Lib.hid (HTK.out.keep HR.out.2.2); have HTRK2 := Lib.hid (HTRK.out.below HR.out.2.2 HW1.out)
    clear lt c22 c23 c24 c25 c26 c27 c28 c29 c30 c31 fz
    obtain ⟨lt, c22, c23, c24, c25, c26, c27, c28, c29, c30, c31, fz⟩ := id HTK2.out
    go_wp2_with fail
    go_region
    go_wp2_with fail
    (try simp only [Exit.inBlock, Exit.then])
    refine bodyPost_ret (results_tmp4 rfl _ _ _) rfl ?_
    refine ⟨i, ln, ls, le, rfl, by have := HR.out.1; omega, hle, by omega, ((HTK2.out.set30 true).set28 _).drew, ((HTRK2.out.set 30 _ (by omega) (by omega)).set 28 _ (by omega) (by omega)).drew⟩
end Go.Proofs.YtocciemgdikmjaaDoor
