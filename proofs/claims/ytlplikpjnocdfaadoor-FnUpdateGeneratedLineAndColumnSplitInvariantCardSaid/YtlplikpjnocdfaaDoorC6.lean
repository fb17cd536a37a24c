/-
  updateGeneratedLineAndColumn: the scan, walked.
-/
import Derived.Test.YtlplikpjnocdfaaDoorC5
import Derived.Deep.LoopGhost
import Derived.Deep.CutBlock
import Derived.StillTailTactics
import Derived.Deep.DeepMust
namespace Go.Proofs.YtlplikpjnocdfaaDoor
open Go.ChangeShapes Go.WideShapes Go.ChangeAt Go.RowKit
set_option linter.unusedVariables false
theorem decode_drop {o : List Int} (h : AllB o) (L pos : Nat) : Utf8.decode (strOfNums (o.drop L)) pos = dz o (L + pos) := by rw [decode_dz _ (h.drop L), dz_drop]
theorem iter_below (w : World) (s : ByteArray) (p : Nat) : Below w.heap.size w (w.iter s p) := (Below.refl _ _).alloc (Nat.le_refl _) _
theorem dz_rune {o : List Int} (h : AllB o) (i : Nat) : (dz o i).1 ≤ 2147483647 := by rw [← decode_dz o h]; exact decode_le _ _
theorem ag28 (w : World) (K : Nat) (m v : Value) (S : US) (L : Int) (fn : Int) (R oo cc i : Nat) (hb : BdS w K m v S L fn) (hO : OwnB w (K + 1) v S.buf) (hT : TabB w K R oo cc) (hI : Inv S i) (hi : i ≤ 1048576) (h1 : S.ls = false) (h2 : S.hp = true) :
    Calls Tryd.prog 28 #[.pointer (some ⟨K, 0, none⟩), .agg (stV S.gl 0 S.si S.ol S.oc 0 false)] w fun e w' => e = .returned (.tuple #[]) ∧ ∃ v', BdS w' K m v' (again S) L fn ∧ OwnB w' (K + 1) v' (again S).buf ∧ MvK K w w' v v' := by
  have hg := hI.gc
  have hln := hI.len
  refine (am28 w K m v S.buf (lastB S.buf) S.gl S.gcol S.si S.ol S.oc S.on S.hn L S.gen fn S.hp S.ls S.gl 0 S.si S.ol S.oc 0 false R oo cc hb hO hT (by omega) hI.lst (last_is _) (by unfold In33; omega) (by unfold In33; omega) (by unfold In33; omega) (by unfold In33; omega) (fun h => by cases h) _ _ (Lib.hid rfl) (Lib.hid rfl)).mono ?_
  rintro e w' ⟨rfl, v', k1, k2, k3⟩
  have ea : again S = { S with buf := S.buf ++ cma (lastB S.buf) ++ seg4 (0 - S.gcol) 0 0 0, gcol := 0, hn := false, hp := true } := by unfold again; rw [if_pos ⟨h1, h2⟩]
  refine ⟨rfl, v', ?_, ?_, k3⟩
  · rw [ea]
    have ef : fnI false fn (nameI S.buf (lastB S.buf) false (0 - S.gcol) (S.si - S.si) (S.ol - S.ol) (S.oc - S.oc)) = fn := by unfold fnI; rw [if_neg (by simp)]
    rw [ef] at k1
    exact k1
  · rw [ea]
    have eo : outM S.buf (lastB S.buf) false (0 - S.gcol) (S.si - S.si) (S.ol - S.ol) (S.oc - S.oc) (0 - S.on) = S.buf ++ cma (lastB S.buf) ++ seg4 (0 - S.gcol) 0 0 0 := by
      unfold outM
      rw [Int.sub_self, Int.sub_self, Int.sub_self]
      simp
    rw [eo] at k2
    exact k2
set_option maxRecDepth 100000 in
set_option maxHeartbeats 80000000 in
theorem up33 (w : World) (K : Nat) (m v : Value) (pp : Option Addr) (cp : Nat) (o : List Int) (L : Nat) (S : US) (fn : Int) (R oo cc : Nat) (hb : BdS w K m v S L fn) (hO : OwnB w (K + 1) v S.buf) (hT : TabB w K R oo cc) (hI : Inv S L)
    (hA : ∀ W, Below K w W → At8 W (.slice pp o.length cp) o) (hz : pp = none → cp = 0) (hl : o.length ≤ 1048576) (hL : L ≤ o.length) :
    Calls Tryd.prog 33 #[.pointer (some ⟨K, 0, none⟩), .slice pp o.length cp] w fun e w' => e = .returned (.tuple #[]) ∧ ∃ v', BdS w' K m v' (scan o L S) o.length fn ∧ OwnB w' (K + 1) v' (scan o L S).buf ∧ MvK K w w' v v' := by
  have hk := Bd.lt hb
  obtain ⟨y1, y6, y7, y8, y9, y10, y11, y12, y13, y14, y17, y18, y20, y21, yf⟩ := Bd.cells hb
  have HALL := Lib.hid (hA w (Below.refl _ _)).2
  have HCE := Lib.hid (show o.length ≤ cp ∧ ∀ i, i < o.length → ∃ a, pp = some a ∧ w.cell? (a.add i) = some (.int .u8 (nb o i : Nat)) from by
    obtain ⟨p', c', hv, hc, hi⟩ := (hA w (Below.refl _ _)).cell
    injection hv with h1 h2 h3
    subst h1 h3
    exact ⟨hc, hi⟩)
  have HBY := Lib.hid (hA w (Below.refl _ _)).1
  have HB := Lib.hid hb; have HO := Lib.hid hO; have HT := Lib.hid hT; have HINV := Lib.hid hI; have HA := Lib.hid hA; have HK := Lib.hid hk
  obtain ⟨n, hn⟩ : ∃ n, o.length = n := ⟨_, rfl⟩
  have HN := Lib.hid hn
  rw [hn] at HCE HBY HA hl hL ⊢
  obtain ⟨s, hs⟩ : ∃ s, strOfNums (o.drop L) = s := ⟨_, rfl⟩
  have HSTR := Lib.hid hs
  obtain ⟨nl, hnl⟩ : ∃ x, n - L = x := ⟨_, rfl⟩
  have HSZ := Lib.hid (show s.size = nl by rw [← hs, strOfNums_size, List.length_drop, hn, hnl])
  have hnL : (n : Int) - (L : Int) = (nl : Int) := by omega
  clear hb hO hT hI hA hn hs
  go_enter Tryd.func33, Tryd.ntmps33
  go_upto_region 0 with fail
  go_cut [14] (fun v14 wx => v14 = .pointer (some ⟨w.heap.size, 0, none⟩) ∧ wx = w.iter s 0)
  case first =>
    have hcap := HCE.out.1
    cases pp with
    | none =>
      obtain rfl := hz rfl
      obtain rfl : n = 0 := by omega
      obtain rfl : L = 0 := by omega
      obtain rfl : nl = 0 := by omega
      have hconv : (convert 34 9 (.slice none 0 0)).run Tryd.prog w = .ok (.string s) w := by
        rw [← HSTR.out]
        exact conv_bytes HBY.out
      clear hz hcap
      go_wp2_with fail
      go_meet
      exact ⟨rfl, rfl⟩
    | some a =>
      by_cases hcl : cp = L
      · subst hcl
        obtain rfl : nl = 0 := by omega
        have hconv : (convert 34 9 (.slice (some a) 0 0)).run Tryd.prog w = .ok (.string s) w := by
          rw [← HSTR.out, show o.drop cp = [] from List.drop_of_length_le (by rw [HN.out]; omega)]
          exact conv_bytes ⟨some a, 0, rfl, Nat.le_refl _, fun i hi => absurd hi (by simp)⟩
        have hnL2 : n - cp = 0 := by omega
        clear hz
        go_wp2_with fail
        go_meet
        exact ⟨rfl, rfl⟩
      · have hconv : (convert 34 9 (.slice (some (a.add L)) nl (cp - L))).run Tryd.prog w = .ok (.string s) w := by
          rw [← HSTR.out]
          refine conv_bytes ⟨some (a.add L), cp - L, by rw [List.length_drop, HN.out, hnl], by rw [List.length_drop, HN.out]; omega, fun i hi => ⟨_, rfl, ?_⟩⟩
          rw [List.length_drop, HN.out] at hi
          obtain ⟨a', ha', hc'⟩ := HCE.out.2 (L + i) (by omega)
          cases ha'
          rw [show (a.add L).add i = a.add (L + i) by rw [Addr.add_add]]
          rw [hc']
          have := HALL.out (L + i)
          have e : (o.drop L).getD i 0 = o.getD (L + i) 0 := by simp [List.getD]
          rw [e]; unfold nb; rw [Int.toNat_of_nonneg this.1]
        clear hz
        go_wp2_with fail
        go_meet
        exact ⟨rfl, rfl⟩
  case rest =>
    obtain ⟨rfl, rfl⟩ := hcut
    have HU0 := Lib.hid (show UR w (w.iter s 0) K w.heap.size o L 0 S S m v v fn from ⟨by rw [HSTR.out]; exact World.iter_heap w s 0, Bd.below HB.out ((iter_below w s 0).mono hk), HO.out.keep (iter_below w s 0), HINV.out, rfl, by rw [HN.out]; exact hL, (Mv.of_below v (iter_below w s 0)).k K⟩)
    clear y1 y6 y7 y8 y9 y10 y11 y12 y13 y14 y17 y18 y20 y21 yf hnL
    go_wp2_with fail
    go_loopg [] (nl) (fun g wx => Hid (∃ pos S1 v1, g + pos = nl ∧ UR w wx K w.heap.size o L pos S S1 m v v1 fn))
    case atStart => exact Lib.hid ⟨0, S, v, rfl, HU0.out⟩
    case round =>
      obtain ⟨pos, S1, v1, hg, hu⟩ := hrel.out
      have HU := Lib.hid hu
      obtain ⟨y1, y6, y7, y8, y9, y10, y11, y12, y13, y14, y17, y18, y20, y21, yf⟩ := Bd.cells hu.bd
      have hkx := Bd.lt hu.bd
      obtain ⟨sgl, e1⟩ : ∃ x, S1.gl = x := ⟨_, rfl⟩
      obtain ⟨sgc, e2⟩ : ∃ x, S1.gcol = x := ⟨_, rfl⟩
      obtain ⟨ssi, e3⟩ : ∃ x, S1.si = x := ⟨_, rfl⟩
      obtain ⟨sol, e4⟩ : ∃ x, S1.ol = x := ⟨_, rfl⟩
      obtain ⟨soc, e5⟩ : ∃ x, S1.oc = x := ⟨_, rfl⟩
      obtain ⟨sgen, e6⟩ : ∃ x, S1.gen = x := ⟨_, rfl⟩
      obtain ⟨shp, e7⟩ : ∃ x, S1.hp = x := ⟨_, rfl⟩
      obtain ⟨sls, e8⟩ : ∃ x, S1.ls = x := ⟨_, rfl⟩
      have HE := Lib.hid (show S1.gl = sgl ∧ S1.gcol = sgc ∧ S1.si = ssi ∧ S1.ol = sol ∧ S1.oc = soc ∧ S1.gen = sgen ∧ S1.hp = shp ∧ S1.ls = sls from ⟨e1, e2, e3, e4, e5, e6, e7, e8⟩)
      have hin := hu.inv
      have bgl := hin.gl; have bgc := hin.gc; have bgen := hin.gen
      rw [e1] at y6 bgl; rw [e2] at y7 bgc; rw [e3] at y8; rw [e4] at y9; rw [e5] at y10; rw [e6] at y14 bgen; rw [e7] at y18; rw [e8] at y20
      by_cases hp : pos < nl
      · have hnx0 := fun ty => Lib.run_next_any_at (P := Tryd.prog) wr w.heap.size s pos ty (by rw [← HSTR.out]; exact hu.it) (by rw [HSZ.out]; exact hp)
        rw [show Utf8.decode s pos = dz o (L + pos) by rw [← HSTR.out]; exact decode_drop HALL.out L pos] at hnx0
        have hw1 := dz_w o (L + pos)
        have hrn := dz_rune HALL.out (L + pos)
        have hft := dz_fit o (L + pos) (by rw [HN.out]; omega)
        rw [HN.out] at hft
        have HST := Lib.hid (scan_step o (L + pos) S1 (by rw [HN.out]; omega))
        obtain ⟨c, hc⟩ : ∃ c, (dz o (L + pos)).1 = c := ⟨_, rfl⟩
        obtain ⟨d, hd⟩ : ∃ d, (dz o (L + pos)).2 = d := ⟨_, rfl⟩
        rw [hc, hd] at hnx0 HST
        rw [hd] at hw1 hft
        rw [hc] at hrn
        obtain ⟨w1, hw⟩ : ∃ x, wr.iterAt w.heap.size s (pos + d) = x := ⟨_, rfl⟩
        rw [hw] at hnx0
        have hkq : K ≠ w.heap.size := by omega
        have HU1 := Lib.hid (show w1.heap[w.heap.size]? = some (.stringIter (strOfNums (o.drop L)) (pos + d)) ∧ BdS w1 K m v1 S1 L fn ∧ OwnB w1 (K + 1) v1 S1.buf ∧ MvK K w w1 v v1 by
          have hit := hu.it
          rw [← hw, ← HSTR.out]
          exact ⟨Lib.iterAt_heap _ _ _ _ _ hit, bd_iter hu.bd hit _, own_iter hu.own hit _, hu.mv.iter (Nat.le_refl _) _ _⟩)
        clear y1 y6 y7 y8 y9 y10 y11 y12 y13 y14 y17 y18 y20 y21 yf hkx
        obtain ⟨y1, y6, y7, y8, y9, y10, y11, y12, y13, y14, y17, y18, y20, y21, yf⟩ := Bd.cells HU1.out.2.1
        rw [e1] at y6; rw [e2] at y7; rw [e3] at y8; rw [e4] at y9; rw [e5] at y10; rw [e6] at y14; rw [e7] at y18; rw [e8] at y20
        have hkx := Bd.lt HU1.out.2.1
        have HINV1 := Lib.hid (hu.inv.nxt c (crlf o (L + pos) c) d hw1.1)
        have HSC := Lib.hid (show scan o (L + pos + d) (stp S1 c (crlf o (L + pos) c)) = scan o L S by rw [← HST.out]; exact hu.sc)
        have hG : nl - (pos + d) + (pos + d) = nl := by omega
        have HG := Lib.hid hG
        -- what is left to be shown at the round's end
        have HEND := Lib.hid (show ∀ wx v2, BdS wx K m v2 (stp S1 c (crlf o (L + pos) c)) L fn → OwnB wx (K + 1) v2 (stp S1 c (crlf o (L + pos) c)).buf → wx.heap[w.heap.size]? = some (.stringIter (strOfNums (o.drop L)) (pos + d)) → MvK K w wx v v2 → UR w wx K w.heap.size o L (pos + d) S (stp S1 c (crlf o (L + pos) c)) m v v2 fn from
          fun wx v2 h1 h2 h3 h4 => ⟨h3, h1, h2, by have := HINV1.out; rwa [Nat.add_assoc] at this, by have := HSC.out; rwa [Nat.add_assoc] at this, by rw [HN.out]; omega, h4⟩)
        clear hc hd e1 e2 e3 e4 e5 e6 e7 e8 hu hw hG HST HINV1 HSC hin
        by_cases hnlb : isNL c = true
        · have HNLB := Lib.hid hnlb
          rw [isNL, decide_eq_true_eq] at hnlb
          obtain ⟨q1, hq1⟩ : ∃ x, ((c : Int) == 13) = x := ⟨_, rfl⟩
          have HQ1 := Lib.hid hq1
          clear hq1
          go_upto_region 7 with fail
          go_cut [36] (fun vx wx => vx = .bool q1 ∧ w1 = wx)
          case first =>
            have hq := HQ1.out
            go_wp2_with fail
            go_meet
            exact ⟨by first | rfl | rw [hq], rfl⟩
          case rest =>
            obtain ⟨rfl, rfl⟩ := hcut
            go_upto_if 36 with fail
            go_cut [36] (fun vx wx => vx = .bool true ∧ w1 = wx)
            case first =>
              cases q1 with
              | true =>
                go_wp2_with fail
                go_meet
                exact ⟨rfl, rfl⟩
              | false =>
                have hn13 : c ≠ 13 := by have h := HQ1.out; intro e; rw [e] at h; exact absurd h (by decide)
                rcases hnlb with hcv | hcv | hcv | hcv
                · exact absurd hcv hn13
                all_goals (subst hcv; clear hn13; go_wp2_with fail; go_meet; exact ⟨rfl, rfl⟩)
            case rest =>
              obtain ⟨rfl, rfl⟩ := hcut
              clear hnlb
              by_cases hcr : crlf o (L + pos) c = true
              · rw [crlf, decide_eq_true_eq] at hcr
                obtain ⟨hc13, hx1, hx2⟩ := hcr
                have HXT := Lib.hid (show stp S1 c (crlf o (L + pos) c) = S1 by unfold stp; rw [if_pos]; unfold crlf; rw [decide_eq_true_eq]; exact ⟨hc13, hx1, hx2⟩)
                subst hc13
                rw [HN.out] at hx1
                obtain ⟨lp, hlp⟩ : ∃ x, L + pos = x := ⟨_, rfl⟩
                obtain ⟨jn, hjn⟩ : ∃ x, lp + 1 = x := ⟨_, rfl⟩
                have f1 : (L : Int) + (pos : Int) = (lp : Int) := by omega
                have f2 : (lp : Int) + 1 = (jn : Int) := by omega
                have hbl1 := HU1.out.2.2.2.below K (Nat.le_refl _) (by omega) (fun j hj => by have := HO.out.lt j hj; omega)
                rw [hlp, hjn] at hx1 hx2
                obtain ⟨a, hpa, hca⟩ := HCE.out.2 jn hx1
                subst hpa
                have q : w1.cell? (a.add jn) = some (.int .u8 10) := by
                  obtain ⟨p', c', hv, hc, hi⟩ := (HA.out w1 hbl1).cell
                  obtain ⟨a', ha', hq⟩ := hi jn (by rw [HN.out]; exact hx1)
                  injection hv with h1 h2 h3
                  rw [← h1] at ha'
                  cases ha'
                  rw [hq, hx2]
                  rfl
                clear hbl1 hca hx2 hjn hlp
                go_wp2_with fail
                go_roundg (nl - (pos + d))
                case measure => omega
                case rel =>
                  refine Lib.hid ⟨pos + d, _, v1, HG.out, HEND.out _ _ ?_ ?_ HU1.out.1 HU1.out.2.2.2⟩
                  · rw [HXT.out]; exact HU1.out.2.1
                  · rw [HXT.out]; exact HU1.out.2.2.1
              · have HXF := Lib.hid (show crlf o (L + pos) c = false by simpa using hcr)
                clear hcr
                go_upto_region 11 with fail
                go_cut [42] (fun vx wx => vx = .bool q1 ∧ w1 = wx)
                case first =>
                  have hq := HQ1.out
                  go_wp2_with fail
                  go_meet
                  exact ⟨by first | rfl | rw [hq], rfl⟩
                case rest =>
                  obtain ⟨rfl, rfl⟩ := hcut
                  go_upto_if 42 with fail
                  go_cut [] (fun wx => w1 = wx)
                  case first =>
                    cases q1 with
                    | false =>
                      go_wp2_with fail
                      go_meet
                      exact rfl
                    | true =>
                      have hc13 : c = 13 := by have h := HQ1.out; simp at h; omega
                      have hxf := HXF.out
                      unfold crlf at hxf
                      rw [decide_eq_false_iff_not] at hxf
                      obtain ⟨lp, hlp⟩ : ∃ x, L + pos = x := ⟨_, rfl⟩
                      obtain ⟨jn, hjn⟩ : ∃ x, lp + 1 = x := ⟨_, rfl⟩
                      have f1 : (L : Int) + (pos : Int) = (lp : Int) := by omega
                      have f2 : (lp : Int) + 1 = (jn : Int) := by omega
                      have hbl1 := HU1.out.2.2.2.below K (Nat.le_refl _) (by omega) (fun j hj => by have := HO.out.lt j hj; omega)
                      by_cases hj1 : jn < n
                      · obtain ⟨a, hpa, hca⟩ := HCE.out.2 jn hj1
                        subst hpa
                        have q : w1.cell? (a.add jn) = some (.int .u8 (nb o jn : Nat)) := by
                          obtain ⟨p', c', hv, hc, hi⟩ := (HA.out w1 hbl1).cell
                          obtain ⟨a', ha', hq⟩ := hi jn (by rw [HN.out]; exact hj1)
                          injection hv with h1 h2 h3
                          rw [← h1] at ha'
                          cases ha'
                          exact hq
                        have hq10 : (((nb o jn : Nat) : Int) == 10) = false := by
                          simp
                          intro h
                          exact hxf ⟨hc13, by rw [HN.out, hlp, hjn]; exact hj1, by rw [hlp, hjn]; omega⟩
                        obtain ⟨bx, hbx⟩ : ∃ x, nb o jn = x := ⟨_, rfl⟩
                        rw [hbx] at q hq10
                        clear hbl1 hca hxf hbx hjn hlp hc13
                        go_wp2_with fail
                        go_meet
                        exact rfl
                      · clear hbl1 hxf hjn hlp hc13
                        go_wp2_with fail
                        go_meet
                        exact rfl
                  case rest =>
                    obtain rfl := hcut
                    go_upto_region 14 with fail
                    go_cut [77] (fun vx wx => vx = .bool (!sls && shp) ∧ w1 = wx)
                    case first =>
                      cases sls <;> cases shp <;> (go_wp2_with fail; go_meet; exact ⟨rfl, rfl⟩)
                    case rest =>
                      obtain ⟨rfl, rfl⟩ := hcut
                      obtain ⟨tt, htt⟩ : ∃ x, (!sls && shp) = x := ⟨_, rfl⟩
                      have HTT0 := Lib.hid htt
                      rw [htt]
                      clear htt
                      go_upto_if 77 with fail
                      go_cut [] (fun wx => ∃ v2, Hid (BdS wx K m v2 (again S1) L fn ∧ OwnB wx (K + 1) v2 (again S1).buf ∧ wx.heap[w.heap.size]? = some (.stringIter (strOfNums (o.drop L)) (pos + d)) ∧ MvK K w wx v v2))
                      case first =>
                        by_cases hls : sls = false ∧ shp = true
                        · obtain ⟨hl1, hl2⟩ := hls
                          subst hl1; subst hl2
                          obtain rfl : true = tt := HTT0.out
                          have HAG := Lib.hid (ag28 w1.drew K m v1 S1 L fn R oo cc (L + pos) HU1.out.2.1 (World.ownsRow.drew HU1.out.2.2.1) (HT.out.below ((HU1.out.2.2.2.below K (Nat.le_refl _) (by omega) (fun j hj => by have := HO.out.lt j hj; omega)).drew)) HU.out.inv (by omega) HE.out.2.2.2.2.2.2.2 HE.out.2.2.2.2.2.2.1)
                          rw [HE.out.1, HE.out.2.2.1, HE.out.2.2.2.1, HE.out.2.2.2.2.1] at HAG
                          go_wp2_with fail
                          go_still_tail 22, (by kernel_rfl)
                          change wpList _ _ _ _ _ w1.drew
                          go_wp2_with (go_at_call 28; refine (HAG.out).mono ?_; rintro e w2 ⟨rfl, v2, k1, k2, k3⟩; have H1 := Lib.hid k1; have H2 := Lib.hid k2; have H3 := Lib.hid k3; clear k1 k2 k3)
                          go_meet
                          exact ⟨v2, Lib.hid ⟨H1.out, H2.out, iter_keep H3.out (World.ownsRow.drew HU1.out.2.2.1) (show Bd w1.drew K m v1 _ _ _ _ _ _ _ _ _ _ _ _ from HU1.out.2.1) HU1.out.1, HU1.out.2.2.2.drew.trans H3.out⟩⟩
                        · have HNA := Lib.hid (show again S1 = S1 by unfold again; rw [HE.out.2.2.2.2.2.2.2, HE.out.2.2.2.2.2.2.1, if_neg hls])
                          have hcase : sls = true ∨ (sls = false ∧ shp = false) := by
                            cases sls with
                            | true => exact Or.inl rfl
                            | false => cases shp with
                              | true => exact absurd ⟨rfl, rfl⟩ hls
                              | false => exact Or.inr ⟨rfl, rfl⟩
                          have htf : tt = false := by
                            rw [← HTT0.out]
                            rcases hcase with h1 | ⟨h1, h2⟩
                            · rw [h1]; rfl
                            · rw [h1, h2]; rfl
                          clear hls hcase
                          subst htf
                          go_wp2_with fail
                          go_meet
                          exact ⟨v1, Lib.hid ⟨by rw [HNA.out]; exact HU1.out.2.1, by rw [HNA.out]; exact HU1.out.2.2.1, HU1.out.1, HU1.out.2.2.2⟩⟩
                      case rest =>
                        obtain ⟨v2, HC⟩ := hcut
                        clear y1 y6 y7 y8 y9 y10 y11 y12 y13 y14 y17 y18 y20 y21 yf hkx
                        obtain ⟨T, hT⟩ : ∃ T, again S1 = T := ⟨_, rfl⟩
                        have HTT := Lib.hid hT
                        rw [hT] at HC
                        clear hT
                        have hIA := HU.out.inv.agn
                        rw [HTT.out, HE.out.1, HE.out.2.2.2.2.2.1] at hIA
                        obtain ⟨tgl, g1⟩ : ∃ x, T.gl = x := ⟨_, rfl⟩
                        obtain ⟨tgc, g2⟩ : ∃ x, T.gcol = x := ⟨_, rfl⟩
                        obtain ⟨tgen, g3⟩ : ∃ x, T.gen = x := ⟨_, rfl⟩
                        have htl := hIA.2.1
                        have hlen := HU.out.inv.len
                        have hgl2 : tgl = sgl := by rw [← g1]; exact hIA.1
                        subst hgl2
                        have HBT := Lib.hid HC.out.1
                        obtain ⟨y1, y6, y7, y8, y9, y10, y11, y12, y13, y14, y17, y18, y20, y21, yf⟩ := Bd.cells HC.out.1
                        rw [g1] at y6; rw [g2] at y7; rw [g3] at y14
                        have hkx := Bd.lt HC.out.1
                        obtain ⟨pq, cq, hvq, _, _⟩ := HC.out.2.1.bytes
                        obtain ⟨NQ, hNQ⟩ : ∃ x, T.buf.length = x := ⟨_, rfl⟩
                        have HNQ := Lib.hid hNQ
                        rw [hNQ] at hvq htl
                        subst hvq
                        obtain ⟨W3, hW3⟩ : ∃ x, ((wc.setCell ⟨K, 6, none⟩ (.int .i64 (tgl + 1))).setCell ⟨K, 7, none⟩ (.int .i64 0)).setCell ⟨K, 14, none⟩ (.int .i64 0) = x := ⟨_, rfl⟩
                        have b1 := bd_set6 HC.out.1 (tgl + 1)
                        have b2 := bd_set7 b1 0
                        have b3 := bd_set14 b2 0
                        have o3 := bd_own b2 (bd_own b1 (bd_own HC.out.1 HC.out.2.1 6 (.int .i64 (tgl + 1))) 7 (.int .i64 0)) 14 (.int .i64 0)
                        have m3 := ((HC.out.2.2.2.set 6 (.int .i64 (tgl + 1))).set 7 (.int .i64 0)).set 14 (.int .i64 0)
                        have i3 := (heap_set_other 14 (.int .i64 0) hkq.symm).trans ((heap_set_other 7 (.int .i64 0) hkq.symm).trans ((heap_set_other 6 (.int .i64 (tgl + 1)) hkq.symm).trans HC.out.2.2.1))
                        rw [hW3] at b3 o3 m3 i3
                        have HW3 := Lib.hid hW3; have B3 := Lib.hid b3; have O3 := Lib.hid o3; have M3 := Lib.hid m3; have I3 := Lib.hid i3
                        have hk3 := Bd.lt b3
                        have HOA := Lib.hid (World.ownsRow.alloc o3 (.cells #[.int .u8 59] 5))
                        obtain ⟨ti0, hin, hz0, hz1, hz2⟩ := info_parts info5
                        have HB59 := Lib.hid (show stp S1 c (crlf o (L + pos) c) = { T with buf := T.buf ++ [59], gl := tgl + 1, gcol := 0, gen := 0, ls := false } by
                          unfold stp
                          rw [HXF.out, if_neg (by simp), HNLB.out, if_pos rfl]
                          unfold brk
                          rw [HTT.out]
                          dsimp only
                          rw [g1])
                        have hs3 : W3.heap.size = wc.heap.size := by rw [← hW3]; simp [World.setCell]
                        have HCO := Lib.hid (show ∀ j u, [Value.int .u8 59][j]? = some u → (W3.alloc (.cells #[.int .u8 59] 5)).cell? ((⟨wc.heap.size, 0, none⟩ : Addr).add j) = some u by rw [← hs3]; exact cell_one _ _ _)
                        clear hs3 b1 b2 b3 o3 m3 i3 hW3 g1 g2 g3 hIA hNQ
                        go_wp2_with (at_builtin; go_must (rw [HW3.out]; refine wpList_append_own_at _ rfl (.tmp 121) (.tmp 122) 34 rfl (K + 1) 5 ti0 (.int .u8 0) 1 1 Tryd.underlying34 hin hz0 hz1 hz2 rfl (by decide) _ T.buf.length (cellsB T.buf) rfl HOA.out ⟨wc.heap.size, 0, none⟩ 1 1 [.int .u8 59] rfl rfl HCO.out (by intro u hu; simp at hu; subst hu; rfl) (by rw [HNQ.out]; unfold maxLen; omega) (by rw [HNQ.out]; omega) (by simp; omega) ?_; intro v4 w4 hown1 hg1 hnil1 hat1; have O4 := Lib.hid (own_app hown1); have M4 := Lib.hid (Mv.app hg1 hat1); clear hown1 hg1 hnil1 hat1; have B4 := Lib.hid (M4.out.keep O3.out B3.out (by decide)); obtain ⟨z1, _, _, _, _, _, _, _, _, _, _, _, z20, _, zf⟩ := Bd.cells B4.out; obtain ⟨pr, cr, hvr, _, _⟩ := O4.out.bytes; obtain ⟨NR, hNR⟩ : ∃ x, (T.buf ++ [59]).length = x := ⟨_, rfl⟩; rw [hNR] at hvr; subst hvr; clear hNR))
                        go_roundg (nl - (pos + d))
                        case measure => omega
                        case rel =>
                          refine Lib.hid ⟨pos + d, _, _, HG.out, HEND.out _ _ ?_ ?_ ?_ ((((M3.out.trans (M4.out.k K)).set 1 _).set 20 _))⟩
                          · rw [HB59.out]; exact bd_set20 (bd_set1 B4.out _) false
                          · rw [HB59.out]; exact bd_own (bd_set1 B4.out _) (bd_own B4.out O4.out 1 _) 20 _
                          · exact (heap_set_other 20 _ hkq.symm).trans ((heap_set_other 1 _ hkq.symm).trans (iter_keep (M4.out.k K) O3.out B3.out I3.out))
        · have hnl' : isNL c = false := by simpa using hnlb
          have hne : ¬ (c = 13 ∨ c = 10 ∨ c = 8232 ∨ c = 8233) := by unfold isNL at hnl'; simpa using hnl'
          have HX := Lib.hid (show stp S1 c (crlf o (L + pos) c) = { S1 with gen := sgen + (if c ≤ 65535 then 1 else 2) } by
            have hx : crlf o (L + pos) c = false := by unfold crlf; rw [decide_eq_false_iff_not]; intro h; exact hne (Or.inl h.1)
            unfold stp
            rw [hx, if_neg (by simp), hnl', if_neg (by simp), HE.out.2.2.2.2.2.1])
          have d1 : ((c : Int) == 13) = false := by simp; omega
          have d2 : ((c : Int) == 10) = false := by simp; omega
          have d3 : ((c : Int) == 8232) = false := by simp; omega
          have d4 : ((c : Int) == 8233) = false := by simp; omega
          clear hnl' hne hnlb
          by_cases hbig : c ≤ 65535
          · have HY := Lib.hid (show stp S1 c (crlf o (L + pos) c) = { S1 with gen := sgen + 1 } by rw [HX.out, if_pos hbig])
            go_wp2_with fail
            go_roundg (nl - (pos + d))
            case measure => omega
            case rel =>
              refine Lib.hid ⟨pos + d, _, v1, HG.out, HEND.out _ _ ?_ ?_ ?_ (HU1.out.2.2.2.set 14 _)⟩
              · rw [HY.out]; exact bd_set14 HU1.out.2.1 _
              · rw [HY.out]; exact bd_own HU1.out.2.1 HU1.out.2.2.1 14 _
              · exact (heap_set_other 14 _ hkq.symm).trans HU1.out.1
          · have HY := Lib.hid (show stp S1 c (crlf o (L + pos) c) = { S1 with gen := sgen + 2 } by rw [HX.out, if_neg hbig])
            go_wp2_with fail
            go_roundg (nl - (pos + d))
            case measure => omega
            case rel =>
              refine Lib.hid ⟨pos + d, _, v1, HG.out, HEND.out _ _ ?_ ?_ ?_ (HU1.out.2.2.2.set 14 _)⟩
              · rw [HY.out]; exact bd_set14 HU1.out.2.1 _
              · rw [HY.out]; exact bd_own HU1.out.2.1 HU1.out.2.2.1 14 _
              · exact (heap_set_other 14 _ hkq.symm).trans HU1.out.1
      · obtain rfl : pos = nl := by omega
        have hend := Lib.run_next_end_at (P := Tryd.prog) wr w.heap.size s pos 0 (by rw [← HSTR.out]; exact hu.it) (by rw [HSZ.out]; omega)
        have hnx := fun ty => Lib.run_next_end_at (P := Tryd.prog) wr w.heap.size s pos ty (by rw [← HSTR.out]; exact hu.it) (by rw [HSZ.out]; omega)
        have HFIN := Lib.hid (show S1 = scan o L S by rw [← hu.sc]; exact (scan_end o (L + pos) S1 (by rw [HN.out]; omega)).symm)
        clear hend hin bgl bgc bgen e1 e2 e3 e4 e5 e6 e7 e8 hu
        go_wp2_with fail
        go_end0
        refine ⟨rfl, v1, ?_, ?_, HU.out.mv.set 13 _⟩
        · rw [← HFIN.out]; exact bd_set13 HU.out.bd _
        · rw [← HFIN.out]; exact bd_own HU.out.bd HU.out.own 13 _
end Go.Proofs.YtlplikpjnocdfaaDoor
