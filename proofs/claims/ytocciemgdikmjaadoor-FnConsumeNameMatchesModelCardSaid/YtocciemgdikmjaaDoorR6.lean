/-
  The walk of FnConsumeNameMatchesModel.
-/
import Derived.Test.YtocciemgdikmjaaDoorR5
import Derived.Test.YtocciemgdikmjaaDoorL2
namespace Go.Proofs.YtocciemgdikmjaaDoor
open Go.ChangeShapes Go.WideShapes Go.ChangeAt Go.RowKit
open Go.Lib (decodeN decode_at decodeGo encodeRuneZ encodeRuneZ_length)
set_option linter.unusedVariables false
theorem zb37 (s : ByteArray) (w0 : s.size ≤ maxLen) (w : World) : Calls Tryd.prog 37 #[.string s] w fun e w' => e = .returned (.bool (decide (s.size ≤ 1048576))) ∧ w = w' := by
  by_cases h : s.size ≤ 1048576
  · have HR := Lib.hid (show decide (s.size ≤ 1048576) = true from decide_eq_true h)
    go_enter Tryd.func37, Tryd.ntmps37
    go_wp2_with fail
    go_ret
    exact ⟨ret_bool HR.out.symm, rfl⟩
  · have HR := Lib.hid (show decide (s.size ≤ 1048576) = false from decide_eq_false h)
    go_enter Tryd.func37, Tryd.ntmps37
    go_wp2_with fail
    go_ret
    exact ⟨ret_bool HR.out.symm, rfl⟩
theorem cz39 {w0 w : World} {g : Nat} {s : ByteArray} {C : Nat → Option Value} {u k f : Int} (h : Pl w0 w g s C 0 0 u k f) (hs : s.size ≤ 1048576) (hV : Vd s 0) (E : Nat) (L : List Int) (hN : Nm s E 0 L) :
    Calls Tryd.prog 39 #[.pointer (some ⟨g, 0, none⟩)] w fun e w' => e = .returned (.string (strOfNums L)) ∧ Go2 w0 w w' g s C E 0 u k f := by
  have HS := Lib.hid (cnm66 h hs hV E L hN)
  obtain ⟨S, hS⟩ : ∃ S, strOfNums L = S := ⟨_, rfl⟩
  rw [hS] at HS ⊢
  clear h hV hN hS
  go_enter Tryd.func39, Tryd.ntmps39
  go_wp2_with fail
  refine (HS.out).mono ?_
  rintro e w2 ⟨rfl, hg⟩
  have HG := Lib.hid hg
  clear hg
  dsimp only
  go_wp2_with fail
  go_ret
  exact ⟨rfl, HG.out⟩
def RelO (w : World) (s : ByteArray) (E : Nat) (L : List Int) (i : Nat) (sl : Value) (w' : World) : Prop := ∃ xs l, xs ++ l = L ∧ Nm s E i l ∧ OwnB w' w.heap.size sl xs ∧ Below w.heap.size w w'
set_option maxRecDepth 100000 in
set_option maxHeartbeats 8000000 in
theorem FnConsumeNameMatchesModel_walk (a0 : ByteArray) (w0 : a0.size ≤ maxLen) (w : World) (hT : Lib.Utf8Tabs 0 1 w) :
    Calls Tryd.prog 8 #[.string a0] w fun e w' => e = .returned (.bool true) ∧ Below w.heap.size w w' := by
  obtain ⟨i0, hin, hz0, hz1, hz2⟩ := info_parts infoB
  have HT := Lib.hid hT
  have HZ := Lib.hid (zb37 a0 w0 w)
  clear hT
  go_enter Tryd.func8, Tryd.ntmps8
  go_wp2_with fail
  refine (HZ.out).mono ?_
  rintro e w1 ⟨rfl, rfl⟩
  by_cases hs : a0.size ≤ 1048576
  case neg =>
    rw [decide_eq_false hs]
    clear hs
    dsimp only
    go_wp2_with fail
    go_ret
    exact ⟨rfl, Below.refl _ _⟩
  rw [decide_eq_true hs]
  dsimp only
  go_wp2_with fail
  refine (vl38 a0 hs _).mono ?_
  rintro e w1 ⟨vb, rfl, hv, be1⟩
  have HV0 := Lib.hid hv
  have HB1 := Lib.hid be1
  clear be1 hv
  dsimp only
  cases vb with
  | false =>
    go_wp2_with fail
    go_ret
    exact ⟨rfl, HB1.out⟩
  | true =>
  have HV := Lib.hid (HV0.out rfl)
  obtain ⟨E, L, hN⟩ := nm_ex a0 _ 0 rfl (Nat.zero_le _)
  have hnl := nm_le hN (Nat.zero_le _)
  have hEs : E ≤ a0.size := hnl.2.1
  have HLL := Lib.hid (show L.length ≤ 4194304 by have := hnl.2.2; omega)
  have HCI := Lib.hid (fun (w0 w : World) (g : Nat) (C : Nat → Option Value) (h : Pl w0 w g a0 C 0 0 0 0 0) => cz39 h hs HV.out E L hN)
  have HNM := Lib.hid hN
  obtain ⟨S, hS⟩ : ∃ S, strOfNums L = S := ⟨_, rfl⟩
  rw [hS] at HCI
  have HSQ := Lib.hid hS
  clear hS hN hnl
  have HT1 := Lib.hid (tabs_below HT.out HB1.out)
  go_wp2_with fail
  refine (nl20 a0 _).mono ?_
  rintro e w2 ⟨rfl, rfl⟩
  dsimp only
  go_wp2_with fail
  refine (st21 (lexU_CL w1 a0) (tabs_below HT1.out ((Below.refl w1.heap.size w1).alloc (Nat.le_refl _) _)) hs).mono ?_
  rintro e w2 ⟨rfl, ha, hst⟩
  have HPL := Lib.hid (fresh_plU w1 w2 a0 HT1.out ha hst)
  clear ha hst
  dsimp only
  go_wp2_with fail
  refine (HCI.out _ _ _ _ HPL.out).mono ?_
  rintro e w3 ⟨rfl, hg⟩
  obtain ⟨l, c10, c32, c33, c35, c36, c37, fz⟩ := id hg.1.at_
  have hz0 : (E : Int) - ((0 : Nat) : Int) = (E : Int) := by omega
  rw [hz0] at c37
  have HBF := Lib.hid (HB1.out.trans (hg.1.be.mono HB1.out.size))
  have HZ3 := Lib.hid HBF.out.size
  clear hg hz0 c10 c32 c33 c35 c36 fz
  dsimp only
  go_wp2_with (at_make; refine wpList_make_own _ rfl _ _ 82 rfl w.heap.size 5 i0 (.int .u8 0) 1 Tryd.underlying82 hin hz0 hz1 .i64 .i64 _ 16 rfl rfl rfl (by rw [hz2]; omega) (by unfold maxLen; omega) (by exact HZ3.out) ?_; intro w4 hown4 hgrow4; have HR4 := Lib.hid (show RelO w a0 E L 0 (.slice (some ⟨w3.heap.size, 0, none⟩) 0 16) w4 from ⟨[], L, rfl, HNM.out, hown4, HBF.out.trans (below_grown hgrow4 w.heap.size HZ3.out (fun k hk => by cases hk))⟩); clear hown4 hgrow4)
  go_loopw [6, 7] (fun sl iv w' => ∃ i : Nat, iv = .int .i64 i ∧ i ≤ a0.size ∧ Hid (RelO w a0 E L i sl w')) (fun sl iv w' => a0.size - (intOf iv).toNat)
  case atStart => exact ⟨0, rfl, by omega, HR4⟩
  case round =>
    obtain ⟨i, rfl, hi, HR⟩ := hrel
    obtain ⟨xs, l, hxl, hnm, ho, hb⟩ := HR.out
    have HO := Lib.hid ho; have HB := Lib.hid hb
    have hll : xs.length ≤ 4194304 := by have h1 := HLL.out; rw [← hxl, List.length_append] at h1; omega
    have HXL := Lib.hid hll
    have HSZ := Lib.hid hb.size
    obtain ⟨n, hn⟩ : ∃ n, xs.length = n := ⟨_, rfl⟩
    clear ho hb hll HR HR4
    by_cases hl : i < a0.size
    case neg =>
      obtain rfl : i = a0.size := by omega
      have HF := Lib.hid (show xs = L ∧ E = a0.size from by
        obtain ⟨e1, e2⟩ := nm_stop hnm (fun hh => by omega) (by unfold escN; simp)
        exact ⟨by rw [← hxl, e1]; simp, e2⟩)
      have hcv := conv_bytes HO.out.bytes
      rw [HF.out.1, HSQ.out] at hcv
      have hEq := HF.out.2
      subst hEq
      clear hnm hxl hn
      go_wp2_with fail
      go_ret
      exact ⟨by simp, HB.out⟩
    obtain ⟨b, hby⟩ : ∃ b, byt a0 i = b := ⟨_, rfl⟩
    have g0 : ((a0[i]'hl).toNat : Int) = (b : Int) := by have := byt_at a0 i hl; omega
    have hlI : (i : Int) < (a0.size : Int) := by omega
    have hb256 : b < 256 := by rw [← hby]; exact byt_lt _ _
    cases hnb : nbC b with
    | true =>
      have hA : (wr.alloc (.cells #[.int .u8 b] 5)).ownsRow w.heap.size 5 1 u6 n (cellsB xs) := by rw [← hn]; exact World.ownsRow.alloc HO.out (.cells #[.int .u8 b] 5)
      have HA := Lib.hid hA
      have HN := Lib.hid hn
      have HNX := Lib.hid (show ∃ l', (xs ++ [(b : Int)]) ++ l' = L ∧ Nm a0 E (i + 1) l' from by
        obtain ⟨l', e1, hn'⟩ := nm_name hnm hl (by rw [hby]; exact hnb)
        rw [hby] at e1
        exact ⟨l', by rw [← hxl, e1, List.append_assoc]; rfl, hn'⟩)
      have HNB := Lib.hid hnb
      have hnn : n ≤ 4194304 := by rw [← hn]; exact HXL.out
      clear hA hn hnm hxl hnb hby
      go_wp2_with fail
      refine (nb40 b _).mono ?_
      rintro e w5 ⟨rfl, rfl⟩
      rw [HNB.out]
      dsimp only
      go_wp2_with (at_builtin; refine wpList_append_own _ rfl _ _ 82 rfl w.heap.size 5 i0 (.int .u8 0) 1 1 Tryd.underlying82 hin hz0 hz1 hz2 rfl (by decide) u6 n (cellsB xs) rfl HA.out ⟨wr.heap.size, 0, none⟩ 1 1 [.int .u8 b] rfl rfl (cells_at wr [.int .u8 b] 5) (by intro u hu; simp at hu; subst hu; rfl) (by unfold maxLen; omega) (by omega) (by have := HSZ.out; simp; omega) ?_; intro v1 w6 hown hg hnil; have O1 := Lib.hid (show OwnB w6 w.heap.size v1 (xs ++ [(b : Int)]) by { have h := hown; rw [← HN.out] at h; exact own_appN (ys := [(b : Int)]) h rfl }); have K1 := Lib.hid (HB.out.trans ((below_alloc1 wr w.heap.size HSZ.out (.cells #[.int .u8 b] 5)).trans (below_grown hg w.heap.size (by have := HSZ.out; simp; omega) (OwnB.lt HO.out)))); clear hown hg hnil)
      go_roundw
      case rel => exact ⟨i + 1, by simp, by omega, Lib.hid (by obtain ⟨l', e1, hn'⟩ := HNX.out; exact ⟨_, l', e1, hn', O1.out, K1.out⟩)⟩
      case measure => simp only [intOf]; omega
    | false =>
      have HNB := Lib.hid hnb
      have hnc : ¬ (i < a0.size ∧ ncB (byt a0 i : Nat) = true) := fun hh => by
        have h2 := hh.2; rw [hby] at h2; have h3 : nbC b = true := h2; rw [hnb] at h3; cases h3
      have hnm2 := hnm
      by_cases h92 : b = 92
      case neg =>
        have e1 : ((b : Int) == 92) = false := flsI _ _ (by omega)
        have HF := Lib.hid (show xs = L ∧ E = i from by
          obtain ⟨e1, e2⟩ := nm_stop hnm hnc (by unfold escN; rw [hby]; simp; omega)
          exact ⟨by rw [← hxl, e1]; simp, e2⟩)
        clear hnm2 hnc hnb hby h92
        have hcv := conv_bytes HO.out.bytes
        rw [HF.out.1, HSQ.out] at hcv
        have hEq := HF.out.2
        subst hEq
        clear hnm hxl hn
        go_wp2_with fail
        refine (nb40 b _).mono ?_
        rintro e w5 ⟨rfl, rfl⟩
        rw [HNB.out]
        dsimp only
        go_wp2_with fail
        go_ret
        exact ⟨by simp, HB.out⟩
      subst h92
      by_cases hl1 : i + 1 < a0.size
      case neg =>
        have HEN := Lib.hid (show escN a0 i = true by unfold escN; simp [hl, hby]; omega)
        have hl1I : ¬ ((i : Int) + 1 < (a0.size : Int)) := by omega
        have HNX := Lib.hid (show ∃ l', (xs ++ encodeRuneZ (esc a0 (i + 1)).1) ++ l' = L ∧ Nm a0 E (esc a0 (i + 1)).2 l' from by
          obtain ⟨l', e1, hn'⟩ := nm_escN hnm HEN.out
          exact ⟨l', by rw [← hxl, e1, List.append_assoc], hn'⟩)
        have hge := esc_ge a0 (i + 1) (by omega)
        have hrg := esc_rng a0 (i + 1)
        have HEM := Lib.hid (fun w => em42 a0 (i + 1) (by omega) hs w)
        obtain ⟨r, hr⟩ : ∃ r, (esc a0 (i + 1)).1 = r := ⟨_, rfl⟩
        obtain ⟨j, hj⟩ : ∃ j, (esc a0 (i + 1)).2 = j := ⟨_, rfl⟩
        unfold escV at HEM
        rw [hr, hj] at HEM HNX
        rw [hj] at hge
        rw [hr] at hrg
        have hii : ((i + 1 : Nat) : Int) = (i : Int) + 1 := by omega
        rw [hii] at HEM
        clear hnm hnm2 hnc hnb hby hr hj hxl hii hn
        go_wp2_with fail
        refine (nb40 92 _).mono ?_
        rintro e w5 ⟨rfl, rfl⟩
        rw [HNB.out]
        dsimp only
        go_wp2_with fail
        refine (HEM.out _).mono ?_
        rintro e w6 ⟨rfl, be⟩
        have HO6 := Lib.hid (OwnB.keep HO.out be)
        have HB6 := Lib.hid (HB.out.trans (be.mono HSZ.out))
        clear be
        dsimp only
        go_wp2_with fail
        refine (ap43 w6 w.heap.size u6 xs (r : Int) (by omega) (by omega) HO6.out HB6.out.size (by have := HXL.out; omega)).mono ?_
        rintro e w7 ⟨v7, rfl, ho, be⟩
        have HO7 := Lib.hid ho
        have HB7 := Lib.hid (HB6.out.trans be)
        clear ho be
        dsimp only
        go_wp2_with fail
        go_roundw
        case rel => exact ⟨j, by simp, hge.2, Lib.hid (by obtain ⟨l', e1, hn'⟩ := HNX.out; exact ⟨_, l', e1, hn', HO7.out, HB7.out⟩)⟩
        case measure => simp only [intOf]; omega
      obtain ⟨d, hdy⟩ : ∃ d, byt a0 (i + 1) = d := ⟨_, rfl⟩
      have g1 : ((a0[i + 1]'hl1).toNat : Int) = (d : Int) := by have := byt_at a0 (i + 1) hl1; omega
      have hl1I : (i : Int) + 1 < (a0.size : Int) := by omega
      cases hnlq : nlC d with
      | true =>
        have HNL := Lib.hid hnlq
        have HF := Lib.hid (show xs = L ∧ E = i from by
          obtain ⟨e1, e2⟩ := nm_stop hnm hnc (by unfold escN; simp [hl, hby, hl1, hdy, hnlq])
          exact ⟨by rw [← hxl, e1]; simp, e2⟩)
        clear hnm2 hnc hnb hby hnlq hdy
        have hcv := conv_bytes HO.out.bytes
        rw [HF.out.1, HSQ.out] at hcv
        have hEq := HF.out.2
        subst hEq
        clear hnm hxl hn
        go_wp2_with fail
        refine (nb40 92 _).mono ?_
        rintro e w5 ⟨rfl, rfl⟩
        rw [HNB.out]
        dsimp only
        go_wp2_with fail
        refine (n41 d _).mono ?_
        rintro e w5 ⟨rfl, rfl⟩
        rw [HNL.out]
        dsimp only
        go_wp2_with fail
        go_ret
        exact ⟨by simp, HB.out⟩
      | false =>
        have HNL := Lib.hid hnlq
        have HEN := Lib.hid (show escN a0 i = true by unfold escN; simp [hl, hby, hdy, hnlq])
        have HNX := Lib.hid (show ∃ l', (xs ++ encodeRuneZ (esc a0 (i + 1)).1) ++ l' = L ∧ Nm a0 E (esc a0 (i + 1)).2 l' from by
          obtain ⟨l', e1, hn'⟩ := nm_escN hnm HEN.out
          exact ⟨l', by rw [← hxl, e1, List.append_assoc], hn'⟩)
        have hge := esc_ge a0 (i + 1) (by omega)
        have hrg := esc_rng a0 (i + 1)
        have HEM := Lib.hid (fun w => em42 a0 (i + 1) (by omega) hs w)
        obtain ⟨r, hr⟩ : ∃ r, (esc a0 (i + 1)).1 = r := ⟨_, rfl⟩
        obtain ⟨j, hj⟩ : ∃ j, (esc a0 (i + 1)).2 = j := ⟨_, rfl⟩
        unfold escV at HEM
        rw [hr, hj] at HEM HNX
        rw [hj] at hge
        rw [hr] at hrg
        have hii : ((i + 1 : Nat) : Int) = (i : Int) + 1 := by omega
        rw [hii] at HEM
        clear hnm hnm2 hnc hnb hby hr hj hxl hii hn hdy hnlq
        go_wp2_with fail
        refine (nb40 92 _).mono ?_
        rintro e w5 ⟨rfl, rfl⟩
        rw [HNB.out]
        dsimp only
        go_wp2_with fail
        refine (n41 d _).mono ?_
        rintro e w5 ⟨rfl, rfl⟩
        rw [HNL.out]
        dsimp only
        go_wp2_with fail
        refine (HEM.out _).mono ?_
        rintro e w6 ⟨rfl, be⟩
        have HO6 := Lib.hid (OwnB.keep HO.out be)
        have HB6 := Lib.hid (HB.out.trans (be.mono HSZ.out))
        clear be
        dsimp only
        go_wp2_with fail
        refine (ap43 w6 w.heap.size u6 xs (r : Int) (by omega) (by omega) HO6.out HB6.out.size (by have := HXL.out; omega)).mono ?_
        rintro e w7 ⟨v7, rfl, ho, be⟩
        have HO7 := Lib.hid ho
        have HB7 := Lib.hid (HB6.out.trans be)
        clear ho be
        dsimp only
        go_wp2_with fail
        go_roundw
        case rel => exact ⟨j, by simp, hge.2, Lib.hid (by obtain ⟨l', e1, hn'⟩ := HNX.out; exact ⟨_, l', e1, hn', HO7.out, HB7.out⟩)⟩
        case measure => simp only [intOf]; omega
end Go.Proofs.YtocciemgdikmjaaDoor
