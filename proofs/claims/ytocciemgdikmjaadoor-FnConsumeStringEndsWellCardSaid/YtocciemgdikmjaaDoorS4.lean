/-
  scanTo, forward.
-/
import Derived.Test.YtocciemgdikmjaaDoorS3
import Derived.Deep.CutBlock
namespace Go.Proofs.YtocciemgdikmjaaDoor
open Go.ChangeShapes Go.WideShapes Go.ChangeAt Go.RowKit
open Go.Lib (decodeN decode_at decodeGo)
set_option linter.unusedVariables false
theorem trk_below {w0 w w' : World} {g : Nat} {B : Nat} (hb : Below B w0 w) (ht : Trk w w' g) (lo : B ≤ g) (hB : B ≤ w.heap.size) : Below B w0 w' :=
  hb.trans ⟨ht.by_.os, ht.by_.tape, ht.by_.output, ht.by_.size, fun k hk => ht.by_.block k (by omega) (by intro e; injection e; omega)⟩
/-- in the loop of scanTo -/
def RS (w : World) (g : Nat) (s : ByteArray) (i : Nat) (wx : World) : Prop := ∃ ln ls : Nat, ln ≤ i ∧ ls ≤ i ∧ TK wx g s 0 ln ls 0 true false ∧ Trk w wx g
theorem RS.stay {w : World} {g : Nat} {s : ByteArray} {i I : Nat} {wx : World} (h : RS w g s i wx) (hi : i ≤ I) : RS w g s I wx := by
  obtain ⟨ln, ls, h1, h2, h3, h4⟩ := h
  exact ⟨ln, ls, by omega, by omega, h3, h4⟩
theorem rs_line {w w1 : World} {g : Nat} {s : ByteArray} {i I ln ls : Nat} (h1 : ln ≤ i) (hi : i < I) (h3 : TK w1 g s 0 ln ls 0 true false) (h4 : Trk w w1 g) :
    RS w g s I ((((w1.setCell ⟨g, 29, none⟩ (.bool true)).setCell ⟨g, 30, none⟩ (.bool false)).setCell ⟨g, 27, none⟩ (.int .i32 (I : Nat))).setCell ⟨g, 26, none⟩ (.int .i32 ((ln : Int) + 1))) := by
  refine ⟨ln + 1, I, by omega, by omega, ?_, (((h4.set 29 _ (by omega) (by omega)).set 30 _ (by omega) (by omega)).set 27 _ (by omega) (by omega)).set 26 _ (by omega) (by omega)⟩
  rw [show ((ln + 1 : Nat) : Int) = (ln : Int) + 1 by omega]
  exact (((h3.set29 true).set30 false).set27 _).set26 _
theorem rs_cr {w w1 : World} {g : Nat} {s : ByteArray} {i I ln ls : Nat} (h1 : ln ≤ i) (hi : i < I) (h3 : TK w1 g s 0 ln ls 0 true false) (h4 : Trk w w1 g) :
    RS w g s I (((w1.setCell ⟨g, 29, none⟩ (.bool true)).setCell ⟨g, 30, none⟩ (.bool false)).setCell ⟨g, 27, none⟩ (.int .i32 (I : Nat))) :=
  ⟨ln, I, by omega, by omega, ((h3.set29 true).set30 false).set27 _, ((h4.set 29 _ (by omega) (by omega)).set 30 _ (by omega) (by omega)).set 27 _ (by omega) (by omega)⟩
set_option maxRecDepth 100000 in
set_option maxHeartbeats 4000000 in
theorem st129 (w : World) (g : Nat) (s : ByteArray) (off : Nat) (h : TK w g s 0 0 0 0 true false) (w0 : World) (hT : Lib.Utf8Tabs 0 1 w0) (hbw : Below w0.heap.size w0 w) (lo : w0.heap.size ≤ g) (h0 : 0 < off) (h1 : off ≤ s.size) (hs : s.size ≤ 1048576) :
    Calls Tryd.prog 129 #[.pointer (some ⟨g, 22, none⟩), .int .i32 off] w fun e w' => e = .returned (.tuple #[]) ∧ ∃ i ln ls : Nat, i ≤ s.size ∧ ls ≤ i ∧ ln ≤ i ∧ TK w' g s i ln ls 0 true false ∧ Trk w w' g := by
  have H := Lib.hid h; have HT := Lib.hid hT; have HBW := Lib.hid hbw; have LO := Lib.hid lo
  obtain ⟨lt, c22, c23, c24, c25, c26, c27, c28, c29, c30, c31, fz⟩ := h
  clear hT hbw lo
  go_enter Tryd.func129, Tryd.ntmps129
  go_wp2_with fail
  go_loopg [5] s.size (fun n v wx => ∃ i : Nat, v = .int .i32 i ∧ i < off ∧ Hid (n + i = s.size ∧ RS w g s i wx))
  case atStart => exact ⟨0, rfl, h0, Lib.hid ⟨rfl, 0, 0, by omega, by omega, H.out, Trk.refl w g⟩⟩
  case round =>
    obtain ⟨i, rfl, hi, HR⟩ := hrel
    have HN := Lib.hid HR.out.1
    have HTr : Hid (Lib.Utf8Tabs 0 1 wr) := by
      obtain ⟨ln, ls, _, _, _, ht⟩ := HR.out.2
      exact Lib.hid (tabs_below HT.out (trk_below HBW.out ht LO.out (by have := H.out.lt; have := LO.out; omega)))
    have hwp := wid_pos s i (by omega)
    have hwl := wid_le s i (by omega)
    obtain ⟨X, hX⟩ : ∃ X, s.extract i s.size = X := ⟨_, rfl⟩
    obtain ⟨C, hC⟩ : ∃ C, (decodeGo X).1 = C := ⟨_, rfl⟩
    obtain ⟨K, hK⟩ : ∃ K, (decodeGo X).2 = K := ⟨_, rfl⟩
    have hK4 : K ≤ 4 := by rw [← hK]; exact dec_le X
    have hw : wid s i = K := by unfold wid; rw [hX, hK]
    rw [hw] at hwp hwl
    obtain ⟨I, hI⟩ : ∃ I, i + K = I := ⟨_, rfl⟩
    have hI' : (i : Int) + (K : Int) = (I : Int) := by omega
    have hIs : I ≤ s.size := by omega
    have hiI : i < I := by omega
    have hi0 : i ≤ s.size := by omega
    have HX := Lib.hid hX; have HC := Lib.hid hC; have HK := Lib.hid hK; have HWI := Lib.hid (And.intro hi hI)
    have HRS := Lib.hid HR.out.2
    obtain ⟨ln, ls, hl1, hl2, tk, trk⟩ := HR.out.2
    have HTK := Lib.hid tk; have HTRK := Lib.hid trk; have HLN := Lib.hid (And.intro hl1 hl2)
    have ltr := tk.lt
    clear hX hC hK hw hl1 hl2 HR trk tk lt c22 c23 c24 c25 c26 c27 c28 c29 c30 c31 fz
    go_wp2_with fail
    rw [HX.out]
    refine (dec_any X wr HTr.out C K HC.out HK.out).mono ?_
    rintro e w1 ⟨rfl, hb1⟩
    have HTK1 := Lib.hid (HTK.out.keep hb1); have HTRK1 := Lib.hid (HTRK.out.below hb1 ltr)
    obtain ⟨lt, c22, c23, c24, c25, c26, c27, c28, c29, c30, c31, fz⟩ := id HTK1.out
    clear hb1 ltr
    obtain ⟨R, hR⟩ : ∃ R : Int, (C : Int) = R := ⟨_, rfl⟩
    rw [hR]
    clear hR
    have hln : ln ≤ 1048576 := by have := HLN.out.1; omega
    dsimp only
    go_upto_block 2 with fail
    go_cut [] (fun wx => Hid (RS w g s I wx))
    case first =>
      as_aux_lemma =>
      by_cases r10 : R = 10
      · have q10 : (R == 10) = true := by rw [beq_iff_eq]; exact r10
        clear r10
        by_cases hi00 : i = 0
        · have qz : ((I : Int) == (K : Int)) = true := by rw [beq_iff_eq]; omega
          clear hi00
          go_wp2_with fail
          go_meet
          exact Lib.hid (rs_line HLN.out.1 hiI HTK1.out HTRK1.out)
        · have qz : ((I : Int) == (K : Int)) = false := by rw [beq_eq_false_iff_ne]; omega
          obtain ⟨J, hJ⟩ : ∃ J : Nat, J + 1 = i := ⟨i - 1, by omega⟩
          have hJ1 : (I : Int) - (K : Int) - 1 = (J : Int) := by omega
          have hJ2 : J < s.size := by omega
          clear hi00 hJ hwl hIs hwp
          cases hb : (((s[J]'hJ2).toNat : Int) != 13) with
          | true =>
            go_wp2_with fail
            go_meet
            exact Lib.hid (rs_line HLN.out.1 hiI HTK1.out HTRK1.out)
          | false =>
            go_wp2_with fail
            go_meet
            exact Lib.hid (rs_cr HLN.out.1 hiI HTK1.out HTRK1.out)
      · have q10 : (R == 10) = false := by rw [beq_eq_false_iff_ne]; exact r10
        clear r10
        by_cases r13 : R = 13
        · have q13 : (R == 13) = true := by rw [beq_iff_eq]; exact r13
          clear r13
          go_wp2_with fail
          go_meet
          exact Lib.hid (rs_line HLN.out.1 hiI HTK1.out HTRK1.out)
        have q13 : (R == 13) = false := by rw [beq_eq_false_iff_ne]; exact r13
        clear r13
        by_cases r8232 : R = 8232
        · have q8232 : (R == 8232) = true := by rw [beq_iff_eq]; exact r8232
          clear r8232
          go_wp2_with fail
          go_meet
          exact Lib.hid (rs_line HLN.out.1 hiI HTK1.out HTRK1.out)
        have q8232 : (R == 8232) = false := by rw [beq_eq_false_iff_ne]; exact r8232
        clear r8232
        by_cases r8233 : R = 8233
        · have q8233 : (R == 8233) = true := by rw [beq_iff_eq]; exact r8233
          clear r8233
          go_wp2_with fail
          go_meet
          exact Lib.hid (rs_line HLN.out.1 hiI HTK1.out HTRK1.out)
        have q8233 : (R == 8233) = false := by rw [beq_eq_false_iff_ne]; exact r8233
        clear r8233
        go_wp2_with fail
        go_meet
        exact Lib.hid (RS.stay ⟨ln, ls, HLN.out.1, HLN.out.2, HTK1.out, HTRK1.out⟩ (by omega))
    case rest =>
      have HRI := hcut
      clear hcut HTK1 HTRK1 lt c22 c23 c24 c25 c26 c27 c28 c29 c30 c31 fz HTK HTRK
      obtain ⟨ln2, ls2, hl1, hl2, tk, trk⟩ := id HRI.out
      obtain ⟨lt, c22, c23, c24, c25, c26, c27, c28, c29, c30, c31, fz⟩ := id tk
      have HTK2 := Lib.hid tk; have HTRK2 := Lib.hid trk; have HLN2 := Lib.hid (And.intro hl1 hl2)
      clear tk trk hl1 hl2
      by_cases hge : off ≤ I
      · go_wp2_with fail
        first | go_end0 | refine bodyPost_ret (results_none rfl _ _ _) rfl ?_
        refine ⟨rfl, I, ln2, ls2, hIs, HLN2.out.2, HLN2.out.1, HTK2.out.set25 _, HTRK2.out.set 25 _ (by omega) (by omega)⟩
      · go_wp2_with fail
        go_roundg (s.size - I)
        case measure => have := HN.out; omega
        case rel => exact ⟨I, rfl, by omega, Lib.hid ⟨by omega, HRI.out⟩⟩
end Go.Proofs.YtocciemgdikmjaaDoor
