/-
  The model of consumeIdentLike, plainly; consumeIdentLike, url( and all.
-/
import Derived.Test.YtocciemgdikmjaaDoorQ4
import Derived.Test.YtocciemgdikmjaaDoorD4
namespace Go.Proofs.YtocciemgdikmjaaDoor
open Go.ChangeShapes Go.WideShapes Go.ChangeAt Go.RowKit
open Go.Lib (decodeN decode_at decodeGo)
set_option linter.unusedVariables false
def url3 (s : ByteArray) : Bool := decide ((byt s 0 = 117 ∨ byt s 0 = 85) ∧ (byt s 1 = 114 ∨ byt s 1 = 82) ∧ (byt s 2 = 108 ∨ byt s 2 = 76))
/-- from the name's end E on: kind, end, does the model speak -/
def mdlE (s : ByteArray) (E : Nat) : Nat × Nat × Bool :=
  if byt s E = 92 ∧ ¬ (E + 1 < s.size ∧ nlC (byt s (E + 1)) = true) then (0, 0, false)
  else if ¬ byt s E = 40 then (1, E, true)
  else if ¬ (E = 3 ∧ url3 s = true) then (2, E + 1, true)
  else if byt s (run wsC s (E + 1)) = 34 ∨ byt s (run wsC s (E + 1)) = 39 then (2, E + 1, true)
  else if byt s (run wsC s (urlE s (run wsC s (E + 1)))) = 41 then (3, run wsC s (urlE s (run wsC s (E + 1))) + 1, true) else (0, 0, false)
def mdl (s : ByteArray) : Nat × Nat × Bool := mdlE s (nmE s 0)
def kndU (n : Nat) : Nat := if n = 1 then 29 else if n = 2 then 27 else 37
theorem urlB_le (s : ByteArray) : ∀ k j, j ≤ s.size → j ≤ urlB s k j ∧ urlB s k j ≤ s.size
  | 0, j, h => ⟨Nat.le_refl _, h⟩
  | k + 1, j, h => by
    unfold urlB
    by_cases hj : j < s.size
    · rw [if_pos hj]
      by_cases hp : plnC (byt s j) = true
      · rw [if_pos hp]
        have := urlB_le s k (j + 1) (by omega)
        omega
      · rw [if_neg hp]
        by_cases hb : byt s j = 92 ∧ j + 1 < s.size ∧ nlC (byt s (j + 1)) = false
        · rw [if_pos hb]
          have h1 := esc_ge s (j + 1) (by omega)
          have := urlB_le s k (esc s (j + 1)).2 h1.2
          omega
        · rw [if_neg hb]; exact ⟨Nat.le_refl _, h⟩
    · rw [if_neg hj]; exact ⟨Nat.le_refl _, h⟩
theorem urlE_le (s : ByteArray) (j : Nat) (h : j ≤ s.size) : j ≤ urlE s j ∧ urlE s j ≤ s.size := urlB_le s _ j h
theorem cell_one' {w : World} {A : Nat} {v : Value} {t : TypeId} (h : w.heap[A]? = some (.cells #[v] t)) : w.cell? ⟨A, 0, none⟩ = some v := by
  simp only [World.cell?, h]; rfl
set_option maxRecDepth 100000 in
set_option maxHeartbeats 8000000 in
theorem cil55u {w0 w : World} {g : Nat} {s : ByteArray} {C : Nat → Option Value} {u k f : Int} (h : Pl w0 w g s C 0 0 u k f) (hs : s.size ≤ 1048576) (hok : (mdl s).2.2 = true) :
    Calls Tryd.prog 55 #[.pointer (some ⟨g, 0, none⟩)] w fun e w' => e = .returned (.int .u8 (kndU (mdl s).1 : Nat)) ∧ Go2 w0 w w' g s C (mdl s).2.1 0 u k f := by
  obtain ⟨E, hE⟩ : ∃ E, nmE s 0 = E := ⟨_, rfl⟩
  have hg := nmE_ge s 0 (Nat.zero_le _)
  rw [hE] at hg
  have hEs := hg.2
  obtain ⟨T, hT⟩ : ∃ T, mdl s = T := ⟨_, rfl⟩
  have hTE : mdlE s E = T := by rw [← hT, ← hE]; rfl
  rw [hT] at hok
  rw [hT]
  have h92 : ¬ (byt s E = 92 ∧ ¬ (E + 1 < s.size ∧ nlC (byt s (E + 1)) = true)) := fun hh => by
    unfold mdlE at hTE
    rw [if_pos hh] at hTE
    rw [← hTE] at hok; cases hok
  have HID := Lib.hid (show T = (if ¬ byt s E = 40 then (1, E, true)
  else if ¬ (E = 3 ∧ url3 s = true) then (2, E + 1, true)
  else if byt s (run wsC s (E + 1)) = 34 ∨ byt s (run wsC s (E + 1)) = 39 then (2, E + 1, true)
  else if byt s (run wsC s (urlE s (run wsC s (E + 1)))) = 41 then (3, run wsC s (urlE s (run wsC s (E + 1))) + 1, true) else (0, 0, false)) by rw [← hTE]; unfold mdlE; rw [if_neg h92])
  have hI : iveB s (E + wid s E) (cpOf s E) = false := by
    by_cases hc : cpOf s E = 92
    · obtain ⟨hl, hb⟩ := cp_is s E hEs 92 (by omega) hc
      have hx : E + 1 < s.size ∧ nlC (byt s (E + 1)) = true := by
        by_cases hx : E + 1 < s.size ∧ nlC (byt s (E + 1)) = true
        · exact hx
        · exact absurd ⟨hb, hx⟩ h92
      unfold iveB
      rw [wid_asc s E hl (by omega), nlAt_C s (E + 1) hx.1, hx.2]
      simp
    · unfold iveB
      rw [flsI _ _ hc]; rfl
  have HCN := Lib.hid (cn66 h (Nat.zero_le _) hs (Nat.le_refl 0) (by rw [hE]; exact hI))
  obtain ⟨R, hR⟩ : ∃ R, s.extract 0 E = R := ⟨_, rfl⟩
  rw [hE, hR] at HCN
  have hRs : R.size = E := by rw [← hR]; simp; omega
  have HRQ := Lib.hid hR; have HRS := Lib.hid hRs
  have HOK := Lib.hid hok
  have HN := Lib.hid (en58 0 (E : Int) (by omega) (by omega) (by omega))
  rw [Int.zero_add] at HN
  clear hE hR h hT hTE hRs h92 hI hok hg
  obtain ⟨c, hc⟩ : ∃ c, cpOf s E = c := ⟨_, rfl⟩
  have HC := Lib.hid hc
  go_enter Tryd.func55, Tryd.ntmps55
  go_wp2_with fail
  refine (HCN.out).mono ?_
  rintro e w1 ⟨rfl, hg⟩
  have HG1 := Lib.hid hg
  obtain ⟨l, c10, c32, c33, c35, c36, c37, fz⟩ := id (HG1.out.1.at_)
  rw [hc] at c35
  have hz0 : (E : Int) - ((0 : Nat) : Int) = (E : Int) := by omega
  rw [hz0] at c37
  clear hg hc HCN
  dsimp only
  by_cases h40 : c = 40
  case neg =>
    have hb : ¬ byt s E = 40 := fun hh => h40 (by rw [← HC.out]; exact (is_cp' s E hEs 40 (by omega) (by omega)).2 hh)
    have HID2 := Lib.hid (show T = (1, E, true) by rw [HID.out, if_pos hb])
    have e1 : (c == 40) = false := by rw [beq_eq_false_iff_ne]; exact h40
    clear h40 hb
    go_wp2_with fail
    go_ret
    rw [HID2.out]
    exact ⟨rfl, HG1.out⟩
  have hb := (is_cp' s E hEs 40 (by omega) (by omega)).1 (by rw [HC.out]; exact h40)
  have HBB := Lib.hid hb
  have hEl := byt_lt_size s E (by omega)
  have HID2 := Lib.hid (show T = (if ¬ (E = 3 ∧ url3 s = true) then (2, E + 1, true)
  else if byt s (run wsC s (E + 1)) = 34 ∨ byt s (run wsC s (E + 1)) = 39 then (2, E + 1, true)
  else if byt s (run wsC s (urlE s (run wsC s (E + 1)))) = 41 then (3, run wsC s (urlE s (run wsC s (E + 1))) + 1, true) else (0, 0, false)) by rw [HID.out, if_neg (by rw [hb]; simp)])
  subst h40
  clear hb HID
  go_wp2_with fail
  refine (HN.out _).mono ?_
  rintro e w2 ⟨rfl, be⟩
  have HG2 := Lib.hid (HG1.out.keep be)
  clear be l c10 c32 c33 c35 c36 c37 fz
  obtain ⟨l, c10, c32, c33, c35, c36, c37, fz⟩ := id (HG2.out.1.at_)
  dsimp only
  go_wp2_with fail
  obtain ⟨A, hA⟩ : ∃ A, w2.heap.size = A := ⟨_, rfl⟩
  obtain ⟨wa, hwa⟩ : ∃ wa, w2.alloc (Obj.cells #[Value.int IntKind.i32 (E : Int)] 28) = wa := ⟨_, rfl⟩
  have HG3 := Lib.hid (show Go2 w0 w wa g s C E 0 u k f from by rw [← hwa]; exact HG2.out.keep ((Below.refl w2.heap.size w2).alloc (Nat.le_refl _) (Obj.cells #[Value.int IntKind.i32 (E : Int)] 28)))
  have HM3 := Lib.hid (show wa.heap[A]? = some (Obj.cells #[Value.int IntKind.i32 (E : Int)] 28) from by rw [← hwa, ← hA]; exact heap_alloc_new w2 _)
  have HAg := Lib.hid (show A ≠ g from by have := HG2.out.1.at_.lt; omega)
  have HAl := Lib.hid (show A < wa.heap.size from by rw [← hwa, ← hA]; simp)
  rw [hwa, hA]
  clear hwa hA
  refine (step_pla HG3.out.1 hEl (by have := HBB.out; omega) hs (Nat.zero_le _)).mono ?_
  rintro e w3 ⟨rfl, hg⟩
  have HG4 := Lib.hid (HG3.out.trans hg)
  have HM4 := Lib.hid (show w3.heap[A]? = some (Obj.cells #[Value.int IntKind.i32 (E : Int)] 28) from (hg.2.block A HAl.out (by intro e; injection e with e; exact HAg.out e)).trans HM3.out)
  clear hg l c10 c32 c33 c35 c36 c37 fz
  dsimp only
  by_cases h3 : R.size = 3
  case neg =>
    have e3 : ((R.size : Int) == 3) = false := fls _ _ (by omega)
    have HID3 := Lib.hid (show T = (2, E + 1, true) by rw [HID2.out, if_pos (fun hh => h3 (by rw [HRS.out]; exact hh.1))])
    clear h3
    go_wp2_with fail
    go_ret
    rw [HID3.out]
    exact ⟨rfl, HG4.out⟩
  have hE3 : E = 3 := by have := HRS.out; omega
  have i0 : 0 < R.size := by omega
  have i1 : 1 < R.size := by omega
  have i2 : 2 < R.size := by omega
  obtain ⟨b0, hb0⟩ : ∃ b, (R[0]'i0).toNat = b := ⟨_, rfl⟩
  obtain ⟨b1, hb1⟩ : ∃ b, (R[1]'i1).toNat = b := ⟨_, rfl⟩
  obtain ⟨b2, hb2⟩ : ∃ b, (R[2]'i2).toNat = b := ⟨_, rfl⟩
  have y0 : byt s 0 = b0 := by rw [← hb0, byt_at, ← HRQ.out, byt_ext s 0 E 0 (by omega) hEs]
  have y1 : byt s 1 = b1 := by rw [← hb1, byt_at, ← HRQ.out, byt_ext s 0 E 1 (by omega) hEs]
  have y2 : byt s 2 = b2 := by rw [← hb2, byt_at, ← HRQ.out, byt_ext s 0 E 2 (by omega) hEs]
  obtain ⟨U3, hU3⟩ : ∃ U3, url3 s = U3 := ⟨_, rfl⟩
  have HU3 := Lib.hid (show decide ((b0 = 117 ∨ b0 = 85) ∧ (b1 = 114 ∨ b1 = 82) ∧ (b2 = 108 ∨ b2 = 76)) = U3 by rw [← hU3]; unfold url3; rw [y0, y1, y2])
  rw [hU3] at HID2
  have g0 : ((R[0]'i0).toNat : Int) = (b0 : Int) := by omega
  have g1 : ((R[1]'i1).toNat : Int) = (b1 : Int) := by omega
  have g2 : ((R[2]'i2).toNat : Int) = (b2 : Int) := by omega
  have h3' : (R.size : Int) = 3 := by omega
  have e3 : ((R.size : Int) == 3) = true := by rw [h3']; rfl
  have HE3 := Lib.hid hE3
  clear hb0 hb1 hb2 hE3 h3 h3' y0 y1 y2 hU3
  go_wp2_with fail
  go_region
  all_goals
    go_upto_region 7 with fail
    go_cut [58] (fun v wx => v = .bool U3 ∧ Hid (Go2 w0 w wx g s C (E + 1) 0 u k f ∧ wx.heap[A]? = some (Obj.cells #[Value.int IntKind.i32 (E : Int)] 28)))
    case first =>
      have HG5 := Lib.hid (And.intro HG4.out.drew (show w3.drew.heap[A]? = _ from HM4.out))
      by_cases u1 : b0 = 117 ∨ b0 = 85
      case neg =>
        have hu : U3 = false := by rw [← HU3.out]; simp [u1]
        have d1 : ((b0 : Int) == 117) = false := fls _ _ (by omega)
        have d2 : ((b0 : Int) == 85) = false := fls _ _ (by omega)
        subst hu
        clear u1 HU3 HID2
        go_wp2_with fail
        go_meet
        exact ⟨rfl, HG5⟩
      by_cases r1 : b1 = 114 ∨ b1 = 82
      case neg =>
        have hu : U3 = false := by rw [← HU3.out]; simp [r1]
        have d1 : ((b1 : Int) == 114) = false := fls _ _ (by omega)
        have d2 : ((b1 : Int) == 82) = false := fls _ _ (by omega)
        subst hu
        clear r1 HU3 HID2
        rcases u1 with rfl | rfl
        all_goals
          go_wp2_with fail
          go_meet
          exact ⟨rfl, HG5⟩
      by_cases l1 : b2 = 108 ∨ b2 = 76
      case neg =>
        have hu : U3 = false := by rw [← HU3.out]; simp [l1]
        have d1 : ((b2 : Int) == 108) = false := fls _ _ (by omega)
        have d2 : ((b2 : Int) == 76) = false := fls _ _ (by omega)
        subst hu
        clear l1 HU3 HID2
        rcases u1 with rfl | rfl <;> rcases r1 with rfl | rfl
        all_goals
          go_wp2_with fail
          go_meet
          exact ⟨rfl, HG5⟩
      have hu : U3 = true := by rw [← HU3.out]; simp [u1, r1, l1]
      subst hu
      clear HU3 HID2
      rcases u1 with rfl | rfl <;> rcases r1 with rfl | rfl <;> rcases l1 with rfl | rfl
      all_goals
        go_wp2_with fail
        go_meet
        exact ⟨rfl, HG5⟩
    case rest =>
      obtain ⟨rfl, HG5⟩ := hcut
      cases U3 with
      | false =>
        have HID3 := Lib.hid (show T = (2, E + 1, true) by rw [HID2.out, if_pos (by simp)])
        go_wp2_with fail
        go_ret
        rw [HID3.out]
        exact ⟨rfl, HG5.out.1⟩
      | true =>
      have HID3 := Lib.hid (show T = (if byt s (run wsC s (E + 1)) = 34 ∨ byt s (run wsC s (E + 1)) = 39 then (2, E + 1, true)
  else if byt s (run wsC s (urlE s (run wsC s (E + 1)))) = 41 then (3, run wsC s (urlE s (run wsC s (E + 1))) + 1, true) else (0, 0, false)) by rw [HID2.out, if_neg (by simp [HE3.out])])
      have hE1 : E + 1 ≤ s.size := hEl
      obtain ⟨J, hJ⟩ : ∃ J, run wsC s (E + 1) = J := ⟨_, rfl⟩
      have hJl : E + 1 ≤ J ∧ J ≤ s.size := by rw [← hJ]; exact ⟨run_ge wsC s _ hE1, run_le wsC s _ hE1⟩
      have HJ := Lib.hid hJ
      rw [hJ] at HID3
      have HL := Lib.hid HG5.out.1.2.size
      have HAl5 := Lib.hid (show ∀ W W' : World, W.heap[A]? = some (Obj.cells #[Value.int IntKind.i32 (E : Int)] 28) → W.grownBy W' (some g) → W'.heap[A]? = some (Obj.cells #[Value.int IntKind.i32 (E : Int)] 28) from fun W W' h1 h2 => (h2.block A (Array.getElem?_eq_some_iff.1 h1).1 (by intro e; injection e with e; exact HAg.out e)).trans h1)
      obtain ⟨l, c10, c32, c33, c35, c36, c37, fz⟩ := id HG5.out.1.1.at_
      obtain ⟨NL, hNL⟩ : ∃ x : Int, ((cnt s (E + 1 + 1) : Nat) : Int) = x := ⟨_, rfl⟩
      obtain ⟨CU, hCU⟩ : ∃ x : Int, ((E + 1 + wid s (E + 1) : Nat) : Int) = x := ⟨_, rfl⟩
      obtain ⟨CP, hCP⟩ : ∃ x : Int, cpOf s (E + 1) = x := ⟨_, rfl⟩
      obtain ⟨LN, hLN⟩ : ∃ x : Int, ((E + 1 : Nat) : Int) - ((0 : Nat) : Int) = x := ⟨_, rfl⟩
      rw [hNL] at c32
      rw [hCU] at c33
      rw [hCP] at c35
      rw [hLN] at c37
      have HSV := Lib.hid (And.intro hNL (And.intro hCU (And.intro hCP hLN)))
      clear hNL hCU hCP hLN hJ
      go_wp2_with fail
      go_loopg [] (s.size - (E + 1)) (fun n wx => Hid (∃ t, n = s.size - t ∧ t ≤ s.size ∧ run wsC s t = J ∧ Go2 w0 w wx g s C t 0 u k f ∧ wx.heap[A]? = some (Obj.cells #[Value.int IntKind.i32 (E : Int)] 28)))
      case atStart => exact Lib.hid ⟨E + 1, rfl, hE1, HJ.out, HG5.out.1, HG5.out.2⟩
      case round =>
        obtain ⟨t, hnt, htl, htE, hgt, hmt⟩ := hrel.out
        have HGT := Lib.hid hgt
        have HNT := Lib.hid hnt
        have HTE := Lib.hid htE
        have HMT := Lib.hid hmt
        obtain ⟨d, hd⟩ : ∃ d, cpOf s t = d := ⟨_, rfl⟩
        have HWC := Lib.hid (ws_cp s t htl)
        clear l c10 c32 c33 c35 c36 c37 fz
        obtain ⟨l, c10, c32, c33, c35, c36, c37, fz⟩ := id HGT.out.1.at_
        rw [hd] at c35 HWC
        clear hrel hnt hgt htE hmt
        by_cases hdw : t < s.size ∧ wsC (byt s t) = true
        · have HWI := Lib.hid (show wsI d = true by rw [HWC.out]; simp [hdw])
          have HST2 := Lib.hid (step_pla HGT.out.1 hdw.1 (by have h9 := hdw.2; unfold wsC at h9; simp at h9; omega) hs (Nat.zero_le _))
          have HTN := Lib.hid (show run wsC s (t + 1) = J by rw [← run_go wsC s t hdw.1 hdw.2]; exact HTE.out)
          have ht1 : t < s.size := hdw.1
          clear hdw HWC hd
          go_wp2_with fail
          refine (ws70 _ _).mono ?_
          rintro e w5 ⟨rfl, rfl⟩
          rw [HWI.out]
          dsimp only
          go_wp2_with fail
          refine (HST2.out).mono ?_
          rintro e w6 ⟨rfl, hg⟩
          have HG6 := Lib.hid (And.intro (HGT.out.trans hg) (HAl5.out _ _ HMT.out hg.2))
          clear hg l c10 c32 c33 c35 c36 c37 fz
          dsimp only
          go_wp2_with fail
          go_roundg (s.size - (t + 1))
          case measure => have := HNT.out; omega
          case rel => exact Lib.hid ⟨t + 1, rfl, by omega, HTN.out, HG6.out.1, HG6.out.2⟩
        have HWI := Lib.hid (show wsI d = false by rw [HWC.out]; by_cases h9 : t < s.size; (have h8 : wsC (byt s t) = false := by (have : ¬ wsC (byt s t) = true := fun hh => hdw ⟨h9, hh⟩); simpa using this); rw [h8]; simp; simp [h9])
        have htE2 : t = J := by rw [← HTE.out, run_stop wsC s t (fun h9 => by have : ¬ wsC (byt s t) = true := fun hh => hdw ⟨h9, hh⟩; simpa using this)]
        subst htE2
        have hq34 : d = 34 ↔ byt s t = 34 := by rw [← hd]; exact is_cp' s t htl 34 (by omega) (by omega)
        have hq39 : d = 39 ↔ byt s t = 39 := by rw [← hd]; exact is_cp' s t htl 39 (by omega) (by omega)
        by_cases hq : d = 34 ∨ d = 39
        · have HID4 := Lib.hid (show T = (2, E + 1, true) by rw [HID3.out, if_pos (hq.imp hq34.1 hq39.1)])
          have hst4 : ∀ W : World, W = (((wr.setCell ⟨g, 32, none⟩ (.int .i64 NL)).setCell ⟨g, 35, none⟩ (.int .i32 CP)).setCell ⟨g, 37, none⟩ (.int .i32 LN)).setCell ⟨g, 33, none⟩ (.int .i64 CU) → Go2 w0 w W g s C (E + 1) 0 u k f := by
            rintro W rfl
            have hs4 := (((((Stepped.refl wr g).set 32 (.int .i64 NL) (by omega)).set 35 (.int .i32 CP) (by omega)).set 37 (.int .i32 LN) (by omega)).set 33 (.int .i64 CU) (by omega))
            have ha : At ((((wr.setCell ⟨g, 32, none⟩ (.int .i64 NL)).setCell ⟨g, 35, none⟩ (.int .i32 CP)).setCell ⟨g, 37, none⟩ (.int .i32 LN)).setCell ⟨g, 33, none⟩ (.int .i64 CU)) g s (E + 1) 0 := by
              unfold At
              rw [HSV.out.1, HSV.out.2.1, HSV.out.2.2.1, HSV.out.2.2.2]
              exact ((((CL.set32 HGT.out.1.at_ NL).set35 CP).set37 LN).set33 CU)
            exact ⟨HGT.out.1.stepped hs4 ha, grown_trans HGT.out.2 hs4.by_⟩
          have HST4 := Lib.hid hst4
          clear hst4 hq34 hq39 hdw HWC hd
          rcases hq with rfl | rfl
          all_goals
            go_wp2_with fail
            refine (ws70 _ _).mono ?_
            rintro e w5 ⟨rfl, rfl⟩
            rw [HWI.out]
            dsimp only
            go_wp2_with fail
            go_ret
            rw [HID4.out]
            exact ⟨rfl, HST4.out _ rfl⟩
        · have hqq : ¬ (byt s t = 34 ∨ byt s t = 39) := fun hh => hq (hh.imp hq34.2 hq39.2)
          have hok : byt s (run wsC s (urlE s t)) = 41 := by
            by_cases h41 : byt s (run wsC s (urlE s t)) = 41
            · exact h41
            · exfalso
              have h5 := HID3.out
              rw [if_neg hqq, if_neg h41] at h5
              have h6 := HOK.out
              rw [h5] at h6
              cases h6
          have HID4 := Lib.hid (show T = (3, run wsC s (urlE s t) + 1, true) by rw [HID3.out, if_neg hqq, if_pos hok])
          have HCU := Lib.hid (fun W (hb : Below wr.heap.size wr W) => cu71 (HGT.out.keep hb).1 htl hs (Nat.zero_le _) (⟨byt_lt_size s _ (by omega), hok⟩ : urlOk s t) (E : Int))
          have d34 : (d != 34) = true := by simp; omega
          have d39 : (d != 39) = true := by simp; omega
          have hm0 := cell_one' HMT.out
          clear hq34 hq39 hdw HWC hd hq hqq hok
          go_wp2_with fail
          refine (ws70 _ _).mono ?_
          rintro e w5 ⟨rfl, rfl⟩
          rw [HWI.out]
          dsimp only
          go_wp2_with fail
          refine (HCU.out _ (Below.refl _ _)).mono ?_
          rintro e w6 ⟨rfl, hg⟩
          have HG7 := Lib.hid (HGT.out.trans hg)
          clear hg
          dsimp only
          go_wp2_with fail
          go_ret
          rw [HID4.out]
          exact ⟨rfl, HG7.out⟩
end Go.Proofs.YtocciemgdikmjaaDoor
