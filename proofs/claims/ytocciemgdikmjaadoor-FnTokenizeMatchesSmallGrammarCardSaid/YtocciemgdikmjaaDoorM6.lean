/-
  The walk of FnTokenizeMatchesSmallGrammar.
-/
import Derived.Test.YtocciemgdikmjaaDoorM5
namespace Go.Proofs.YtocciemgdikmjaaDoor
open Go.ChangeShapes Go.WideShapes Go.ChangeAt Go.RowKit
open Go.Lib (decodeN decode_at decodeGo)
set_option linter.unusedVariables false
theorem gram_url {s : ByteArray} (h : Gram s) : NoUrl s := fun i hi => by
  have := gr_or _ (h (i + 3) hi); omega
theorem gram_bom {s : ByteArray} (h : Gram s) : bomE s = 0 := by
  unfold bomE
  rw [if_neg]
  intro e
  by_cases hp : 0 < s.size
  · have hb := gr_or _ (h 0 hp)
    have := cp_asc s 0 hp (by omega)
    omega
  · have h0 : s.size = 0 := by omega
    have := cp_end s
    rw [h0] at this
    omega
set_option maxRecDepth 100000 in
set_option maxHeartbeats 8000000 in
theorem FnTokenizeMatchesSmallGrammar_walk (a0 : ByteArray) (a1 : Bool) (w0 : a0.size ≤ maxLen) (w : World) (hT : Lib.Utf8Tabs 0 1 w) :
    Calls Tryd.prog 3 #[.string a0, .bool a1] w fun e w' => e = .returned (.bool true) ∧ Below w.heap.size w w' := by
  have HT := Lib.hid hT
  have HZ := Lib.hid (zb3_any a0 a1 w0 w)
  have HSB := Lib.hid (fun c w => gs_any c w)
  have HGL := Lib.hid (fun c w => gl_any c w)
  have HGN := Lib.hid (fun c w => gn_any c w)
  have HDG := Lib.hid (fun c w => dig_any c w)
  have hsz := sizeTk
  clear hT
  go_enter Tryd.func3, Tryd.ntmps3
  go_wp2_with fail
  refine (HZ.out).mono ?_
  rintro e w1 ⟨rfl, rfl⟩
  by_cases hs : a0.size ≤ 1048576
  case neg =>
    rw [decide_eq_false hs]
    clear hs
    dsimp only
    go_wp2_with fail
    go_ret
    exact ⟨rfl, Below.refl _ _⟩
  rw [decide_eq_true hs]
  dsimp only
  by_cases h6 : 60000 < a0.size
  · have d6 : (60000 : Int) < (a0.size : Int) := by omega
    go_wp2_with fail
    go_ret
    exact ⟨rfl, Below.refl _ _⟩
  have d6 : ¬ (60000 : Int) < (a0.size : Int) := by omega
  have hs6 : a0.size ≤ 60000 := by omega
  clear h6
  go_wp2_with fail
  go_loopw [5] (fun a w' => ∃ i : Nat, a = .int .i64 i ∧ w = w' ∧ i ≤ a0.size ∧ Hid (∀ q, q < i → grB (byt a0 q) = true)) (fun a w' => a0.size - (intOf a).toNat)
  case atStart => exact ⟨0, rfl, rfl, by omega, Lib.hid (fun q hq => absurd hq (by omega))⟩
  case round =>
    obtain ⟨i, rfl, rfl, hi, HA⟩ := hrel
    by_cases hlt : i < a0.size
    case pos => as_aux_lemma =>
      obtain ⟨b, hb⟩ : ∃ b, (a0[i]'hlt).toNat = b := ⟨_, rfl⟩
      have g0 : ((a0[i]'hlt).toNat : Int) = (b : Int) := by omega
      have HY := Lib.hid (show byt a0 i = b by rw [← byt_at a0 i hlt]; exact hb)
      clear hb
      go_wp2_with fail
      refine (HSB.out b _).mono ?_
      rintro e w2 ⟨rfl, rfl⟩
      dsimp only
      cases hw : grB b with
      | true =>
        have HS := Lib.hid (show ∀ q, q < i + 1 → grB (byt a0 q) = true from fun q hq => by
          by_cases hqi : q < i
          · exact HA.out q hqi
          · obtain rfl : q = i := by omega
            rw [HY.out]; exact hw)
        clear hw
        go_wp2_with fail
        go_roundw
        case rel => exact ⟨i + 1, by simp, by trivial, by omega, HS⟩
        case measure => simp only [intOf]; omega
      | false =>
        clear hw
        go_wp2_with fail
        go_ret
        exact ⟨rfl, Below.refl _ _⟩
    have HG := Lib.hid (show Gram a0 from fun q hq => HA.out q (by omega))
    have HD := Lib.hid HG.out.dom
    have HTZ := Lib.hid (zt12 a0 a1 w HT.out hs HD.out (gram_url HG.out))
    rw [gram_bom HG.out] at HTZ
    have HCN := Lib.hid (fun w => cn_any a0 hs w)
    have HNE := Lib.hid (fun p (hp : p ≤ a0.size) w => ne_any a0 p hs hp w)
    clear HA
    go_wp2_with fail
    refine (HTZ.out).mono ?_
    rintro e w5 ⟨v, J, rfl, hlj, hJ, hrow, hbe⟩
    obtain ⟨a, c, rfl⟩ := row_slice hrow
    have HV := Lib.hid (And.intro hlj (And.intro hJ (And.intro hrow hbe)))
    have hJs : J ≤ 60000 := by have := pos_ge HD.out 0 J hlj; omega
    obtain ⟨N, hN⟩ : ∃ N, cnt a0 a0.size = N := ⟨_, rfl⟩
    have hNl : N ≤ 60000 := by rw [← hN]; have := cnt_le a0 a0.size; omega
    rw [hN] at HCN
    unfold resL
    rw [hN]
    clear hlj hJ hrow hbe HTZ hN
    dsimp only
    go_wp2_with fail
    obtain ⟨w6, hw6⟩ : ∃ w6, w5.alloc (.cells #[.slice a J c, .slice none 0 0, .slice none 0 0, .string ⟨#[]⟩, .int .i32 0, .int .i32 0, .int .i32 ((N : Int) + 1)] 34) = w6 := ⟨_, rfl⟩
    have HB6 := Lib.hid (show Below w5.heap.size w5 w6 from by rw [← hw6]; exact (Below.refl w5.heap.size w5).alloc (Nat.le_refl _) _)
    have HR6 := Lib.hid (show w6.heap[w5.heap.size]? = some (.cells #[.slice a J c, .slice none 0 0, .slice none 0 0, .string ⟨#[]⟩, .int .i32 0, .int .i32 0, .int .i32 ((N : Int) + 1)] 34) from by rw [← hw6]; exact heap_alloc_new w5 _)
    obtain ⟨R, hR⟩ : ∃ R, w5.heap.size = R := ⟨_, rfl⟩
    rw [hR] at HR6
    rw [hw6, hR]
    clear hw6
    have HRW := Lib.hid hR
    clear hR
    go_loopw [9, 10] (fun jv pv wx => ∃ j p : Nat, jv = .int .i64 j ∧ pv = .int .i64 p ∧ j ≤ J ∧ Hid (pos a0 0 j = p ∧ Below w6.heap.size w6 wx)) (fun jv pv wx => J - (intOf jv).toNat)
    case atStart => exact ⟨0, 0, rfl, rfl, Nat.zero_le _, Lib.hid ⟨rfl, Below.refl _ _⟩⟩
    case round =>
      obtain ⟨j, p, rfl, rfl, hj, HB⟩ := hrel
      by_cases hlt2 : j < J
      case neg => as_aux_lemma =>
        obtain rfl : j = J := by omega
        obtain rfl : p = a0.size := by rw [← HB.out.1]; exact HV.out.2.1
        have hb := HB.out.2
        have hRl : R < w6.heap.size := (Array.getElem?_eq_some_iff.1 HR6.out).1
        have hRx : wr.heap[R]? = _ := (hb.block R hRl).trans HR6.out
        have r1 := cell_of hRx 1
        have r2 := cell_of hRx 2
        have r3 := cell_of hRx 3
        have r4 := cell_of hRx 4
        have r5 := cell_of hRx 5
        have r6 := cell_of hRx 6
        simp at r1 r2 r3 r4 r5 r6
        clear hb hRx hlt2
        go_wp2_with fail
        go_region_with ((go_at_call 17; refine (HCN.out _).mono ?_; rintro e w7 ⟨rfl, rfl⟩))
        all_goals
          go_wp2_with fail
          go_ret
          exact ⟨rfl, (HV.out.2.2.2.trans ((HB6.out.trans (HB.out.2.mono HB6.out.size)).mono HV.out.2.2.2.size)).drew⟩
      have hpl : p < a0.size := by rw [← HB.out.1]; exact HV.out.1 j hlt2
      have h2 : (p : Int) < (a0.size : Int) := by omega
      obtain ⟨b, hb⟩ : ∃ b, (a0[p]'hpl).toNat = b := ⟨_, rfl⟩
      have g0 : ((a0[p]'hpl).toNat : Int) = (b : Int) := by omega
      have hy : byt a0 p = b := by rw [← byt_at a0 p hpl]; exact hb
      have HT0 := Lib.hid (gr_tok HG.out hs6 p hpl)
      have OK := tok_ok HD.out p hpl
      rw [← HT0.out] at OK
      obtain ⟨T, hT⟩ : ∃ T, gtok a0 p = T := ⟨_, rfl⟩
      have HM := Lib.hid (show gtok a0 p = (if gwC b = true then ⟨38, run gwC a0 (p + 1), 0, 0⟩
  else if b = 123 then ⟨31, p + 1, 0, 0⟩
  else if b = 125 then ⟨6, p + 1, 0, 0⟩
  else if b = 58 then ⟨9, p + 1, 0, 0⟩
  else if b = 59 then ⟨35, p + 1, 0, 0⟩
  else if b = 44 then ⟨10, p + 1, 0, 0⟩
  else if b = 37 then ⟨11, p + 1, 0, 0⟩
  else if glC b = true then ⟨29, run gnC a0 (p + 1), 0, 0⟩
  else if b = 35 then (if gnC (byt a0 (p + 1)) = true then ⟨28, run gnC a0 (p + 1), 0, if glC (byt a0 (p + 1)) = true then 1 else 0⟩ else ⟨11, p + 1, 0, 0⟩)
  else if b = 64 then (if glC (byt a0 (p + 1)) = true then ⟨1, run gnC a0 (p + 1), 0, 0⟩ else ⟨11, p + 1, 0, 0⟩)
  else if digC b = true ∨ (b = 46 ∧ digC (byt a0 (p + 1)) = true) then gnum a0 p (dotE a0 (run digC a0 p))
  else ⟨17, p + 1, 0, 0⟩) by unfold gtok; rw [hy])
      rw [hT] at HM OK
      have HTK := Lib.hid hT
      have HY := Lib.hid hy
      cases T with
      | mk tk te tu tf =>
      clear hb hy hT
      go_upto_region 21 with fail
      go_cut [55] (fun v wx => ∃ G, v = .bool G ∧ Hid (gwC b = G) ∧ wr = wx)
      case first => as_aux_lemma =>
        by_cases b1 : b = 32
        · subst b1
          go_wp2_with fail
          go_meet
          exact ⟨true, rfl, Lib.hid (by decide), rfl⟩
        have e1 : ((b : Int) == 32) = false := by rw [beq_eq_false_iff_ne]; omega
        by_cases b2 : b = 10
        · subst b2
          clear b1
          go_wp2_with fail
          go_meet
          exact ⟨true, rfl, Lib.hid (by decide), rfl⟩
        have e2 : ((b : Int) == 10) = false := by rw [beq_eq_false_iff_ne]; omega
        have HW := Lib.hid (show gwC b = false by unfold gwC; simp [b1, b2])
        clear b1 b2
        go_wp2_with fail
        go_meet
        exact ⟨false, rfl, HW, rfl⟩
      obtain ⟨G, rfl, HGG, rfl⟩ := hcut
      go_upto_if 55 with fail
      go_cut [12, 13, 14, 15] (fun q k f u wx => q = .int .i64 (te : Nat) ∧ k = .int .u8 (tk : Nat) ∧ f = .int .u8 (tf : Nat) ∧ u = .int .i64 (tu : Nat) ∧ wr = wx)
      case first =>
        cases G with
        | true =>
          rw [HGG.out, if_pos rfl] at HM
          have hm := HM.out
          injection hm with ek ee eu ef
          subst ek eu ef
          have HE := Lib.hid ee
          clear ee
          go_wp2_with fail
          go_loopw [12] (fun a w' => ∃ r : Nat, a = .int .i64 r ∧ wr = w' ∧ r ≤ a0.size ∧ Hid (te = run gwC a0 r)) (fun a w' => a0.size - (intOf a).toNat)
          case atStart => exact ⟨p + 1, by simp, rfl, by omega, HE⟩
          case round =>
            obtain ⟨r, rfl, rfl, hr, HR⟩ := hrel
            by_cases hlr : r < a0.size
            case neg =>
              have HX := Lib.hid (show te = r by rw [HR.out]; exact run_stop _ a0 r (fun h => absurd h hlr))
              go_wp2_with fail
              go_meet
              exact ⟨by rw [HX.out], rfl, rfl, rfl, rfl⟩
            obtain ⟨d, hd⟩ : ∃ d, (a0[r]'hlr).toNat = d := ⟨_, rfl⟩
            have g1 : ((a0[r]'hlr).toNat : Int) = (d : Int) := by omega
            have HDY := Lib.hid (show byt a0 r = d by rw [← byt_at a0 r hlr]; exact hd)
            clear hd
            by_cases hgd : d = 32 ∨ d = 10
            · have HS := Lib.hid (show te = run gwC a0 (r + 1) by rw [HR.out]; exact run_go _ a0 r hlr (by rw [HDY.out]; unfold gwC; simp [hgd]))
              rcases hgd with rfl | rfl
              all_goals
                go_wp2_with fail
                go_roundw
                case rel => exact ⟨r + 1, by simp, by trivial, by omega, HS⟩
                case measure => simp only [intOf]; omega
            · have HX := Lib.hid (show te = r by rw [HR.out]; exact run_stop _ a0 r (fun _ => by rw [HDY.out]; unfold gwC; simp [hgd]))
              have e1 : ((d : Int) == 32) = false := by rw [beq_eq_false_iff_ne]; omega
              have e2 : ((d : Int) == 10) = false := by rw [beq_eq_false_iff_ne]; omega
              clear hgd
              go_wp2_with fail
              go_meet
              exact ⟨by rw [HX.out], rfl, rfl, rfl, rfl⟩
        | false =>
        rw [HGG.out, if_neg (by simp)] at HM
        by_cases h123 : b = 123
        · subst h123
          rw [if_pos rfl] at HM
          have hm := HM.out
          injection hm with ek ee eu ef
          subst ek ee eu ef
          go_wp2_with fail
          go_meet
          exact ⟨by simp, rfl, rfl, rfl, rfl⟩
        have d123 : ((b : Int) == 123) = false := by rw [beq_eq_false_iff_ne]; omega
        rw [if_neg h123] at HM
        clear h123
        by_cases h125 : b = 125
        · subst h125
          rw [if_pos rfl] at HM
          have hm := HM.out
          injection hm with ek ee eu ef
          subst ek ee eu ef
          go_wp2_with fail
          go_meet
          exact ⟨by simp, rfl, rfl, rfl, rfl⟩
        have d125 : ((b : Int) == 125) = false := by rw [beq_eq_false_iff_ne]; omega
        rw [if_neg h125] at HM
        clear h125
        by_cases h58 : b = 58
        · subst h58
          rw [if_pos rfl] at HM
          have hm := HM.out
          injection hm with ek ee eu ef
          subst ek ee eu ef
          go_wp2_with fail
          go_meet
          exact ⟨by simp, rfl, rfl, rfl, rfl⟩
        have d58 : ((b : Int) == 58) = false := by rw [beq_eq_false_iff_ne]; omega
        rw [if_neg h58] at HM
        clear h58
        by_cases h59 : b = 59
        · subst h59
          rw [if_pos rfl] at HM
          have hm := HM.out
          injection hm with ek ee eu ef
          subst ek ee eu ef
          go_wp2_with fail
          go_meet
          exact ⟨by simp, rfl, rfl, rfl, rfl⟩
        have d59 : ((b : Int) == 59) = false := by rw [beq_eq_false_iff_ne]; omega
        rw [if_neg h59] at HM
        clear h59
        by_cases h44 : b = 44
        · subst h44
          rw [if_pos rfl] at HM
          have hm := HM.out
          injection hm with ek ee eu ef
          subst ek ee eu ef
          go_wp2_with fail
          go_meet
          exact ⟨by simp, rfl, rfl, rfl, rfl⟩
        have d44 : ((b : Int) == 44) = false := by rw [beq_eq_false_iff_ne]; omega
        rw [if_neg h44] at HM
        clear h44
        by_cases h37 : b = 37
        · subst h37
          rw [if_pos rfl] at HM
          have hm := HM.out
          injection hm with ek ee eu ef
          subst ek ee eu ef
          go_wp2_with fail
          go_meet
          exact ⟨by simp, rfl, rfl, rfl, rfl⟩
        have d37 : ((b : Int) == 37) = false := by rw [beq_eq_false_iff_ne]; omega
        rw [if_neg h37] at HM
        clear h37
        have HGB := Lib.hid (HGL.out b wr)
        go_wp2_with fail
        refine (HGB.out).mono ?_
        rintro e w7 ⟨rfl, rfl⟩
        dsimp only
        cases hl : glC b with
        | true => as_aux_lemma =>
          rw [hl, if_pos rfl] at HM
          have hm := HM.out
          injection hm with ek ee eu ef
          subst ek eu ef
          have HE := Lib.hid ee
          have HN1 := Lib.hid (HNE.out (p + 1) (by omega) wr)
          clear ee hl
          go_wp2_with fail
          refine (HN1.out).mono ?_
          rintro e w7 ⟨rfl, rfl⟩
          dsimp only
          go_wp2_with fail
          go_meet
          exact ⟨by rw [HE.out], rfl, rfl, rfl, rfl⟩
        | false =>
        rw [hl, if_neg (by simp)] at HM
        clear hl
        by_cases h35 : b = 35
        · as_aux_lemma =>
          subst h35
          rw [if_pos rfl] at HM
          by_cases hq : p + 1 < a0.size
          case neg =>
            rw [byt_end a0 (p + 1) (by omega), if_neg (by decide)] at HM
            have hm := HM.out
            injection hm with ek ee eu ef
            subst ek ee eu ef
            go_wp2_with fail
            go_meet
            exact ⟨by simp, rfl, rfl, rfl, rfl⟩
          obtain ⟨d, hd⟩ : ∃ d, (a0[p + 1]'hq).toNat = d := ⟨_, rfl⟩
          have g1 : ((a0[p + 1]'hq).toNat : Int) = (d : Int) := by omega
          rw [show byt a0 (p + 1) = d by rw [← byt_at a0 (p + 1) hq]; exact hd] at HM
          clear hd
          have HN1 := Lib.hid (HNE.out (p + 1) (by omega) wr)
          go_wp2_with fail
          refine (HGN.out d _).mono ?_
          rintro e w7 ⟨rfl, rfl⟩
          dsimp only
          cases hl : gnC d with
          | false =>
            rw [hl, if_neg (by simp)] at HM
            have hm := HM.out
            injection hm with ek ee eu ef
            subst ek ee eu ef
            clear hl
            go_wp2_with fail
            go_meet
            exact ⟨by simp, rfl, rfl, rfl, rfl⟩
          | true =>
            rw [hl, if_pos rfl] at HM
            clear hl
            go_wp2_with fail
            refine (HGL.out d _).mono ?_
            rintro e w7 ⟨rfl, rfl⟩
            dsimp only
            cases hl2 : glC d with
            | true =>
              rw [hl2] at HM
              have hm := HM.out
              injection hm with ek ee eu ef
              simp only [if_true] at ef
              subst ek eu ef
              have HE := Lib.hid ee
              clear ee hl2
              go_wp2_with fail
              refine (HN1.out).mono ?_
              rintro e w7 ⟨rfl, rfl⟩
              dsimp only
              go_wp2_with fail
              go_meet
              exact ⟨by rw [HE.out], rfl, rfl, rfl, rfl⟩
            | false =>
              rw [hl2] at HM
              have hm := HM.out
              injection hm with ek ee eu ef
              simp only [Bool.false_eq_true, if_false] at ef
              subst ek eu ef
              have HE := Lib.hid ee
              clear ee hl2
              go_wp2_with fail
              refine (HN1.out).mono ?_
              rintro e w7 ⟨rfl, rfl⟩
              dsimp only
              go_wp2_with fail
              go_meet
              exact ⟨by rw [HE.out], rfl, rfl, rfl, rfl⟩
        have d35 : ((b : Int) == 35) = false := by rw [beq_eq_false_iff_ne]; omega
        rw [if_neg h35] at HM
        clear h35
        by_cases h64 : b = 64
        · as_aux_lemma =>
          subst h64
          rw [if_pos rfl] at HM
          by_cases hq : p + 1 < a0.size
          case neg =>
            rw [byt_end a0 (p + 1) (by omega), if_neg (by decide)] at HM
            have hm := HM.out
            injection hm with ek ee eu ef
            subst ek ee eu ef
            go_wp2_with fail
            go_meet
            exact ⟨by simp, rfl, rfl, rfl, rfl⟩
          obtain ⟨d, hd⟩ : ∃ d, (a0[p + 1]'hq).toNat = d := ⟨_, rfl⟩
          have g1 : ((a0[p + 1]'hq).toNat : Int) = (d : Int) := by omega
          rw [show byt a0 (p + 1) = d by rw [← byt_at a0 (p + 1) hq]; exact hd] at HM
          clear hd
          have HN1 := Lib.hid (HNE.out (p + 1) (by omega) wr)
          go_wp2_with fail
          refine (HGL.out d _).mono ?_
          rintro e w7 ⟨rfl, rfl⟩
          dsimp only
          cases hl : glC d with
          | false =>
            rw [hl, if_neg (by simp)] at HM
            have hm := HM.out
            injection hm with ek ee eu ef
            subst ek ee eu ef
            clear hl
            go_wp2_with fail
            go_meet
            exact ⟨by simp, rfl, rfl, rfl, rfl⟩
          | true =>
            rw [hl, if_pos rfl] at HM
            have hm := HM.out
            injection hm with ek ee eu ef
            subst ek eu ef
            have HE := Lib.hid ee
            clear ee hl
            go_wp2_with fail
            refine (HN1.out).mono ?_
            rintro e w7 ⟨rfl, rfl⟩
            dsimp only
            go_wp2_with fail
            go_meet
            exact ⟨by rw [HE.out], rfl, rfl, rfl, rfl⟩
        have d64 : ((b : Int) == 64) = false := by rw [beq_eq_false_iff_ne]; omega
        rw [if_neg h64] at HM
        clear h64
        go_upto_region 50 with fail
        go_cut [138] from 122 to 138 (fun v wx => ∃ G2, v = .bool G2 ∧ Hid ((digC b || (decide (b = 46) && digC (byt a0 (p + 1)))) = G2) ∧ wr = wx)
        case first =>
          go_wp2_with fail
          refine (HDG.out b _).mono ?_
          rintro e w7 ⟨rfl, rfl⟩
          dsimp only
          cases hd : digC b with
          | true =>
            go_wp2_with fail
            go_meet
            exact ⟨true, rfl, Lib.hid (by simp [hd]), rfl⟩
          | false =>
          by_cases h46 : b = 46
          case neg =>
            have d46 : ((b : Int) == 46) = false := by rw [beq_eq_false_iff_ne]; omega
            have HR := Lib.hid (show (digC b || (decide (b = 46) && digC (byt a0 (p + 1)))) = false by simp [hd, h46])
            clear h46 hd
            go_wp2_with fail
            go_meet
            exact ⟨false, rfl, HR, rfl⟩
          subst h46
          by_cases hq : p + 1 < a0.size
          case neg =>
            have HR := Lib.hid (show (digC 46 || (decide (46 = 46) && digC (byt a0 (p + 1)))) = false by rw [byt_end a0 (p + 1) (by omega)]; decide)
            clear hd
            go_wp2_with fail
            go_meet
            exact ⟨false, rfl, HR, rfl⟩
          obtain ⟨d, hd2⟩ : ∃ d, (a0[p + 1]'hq).toNat = d := ⟨_, rfl⟩
          have g1 : ((a0[p + 1]'hq).toNat : Int) = (d : Int) := by omega
          have HR := Lib.hid (show (digC 46 || (decide (46 = 46) && digC (byt a0 (p + 1)))) = digC d by rw [show byt a0 (p + 1) = d by rw [← byt_at a0 (p + 1) hq]; exact hd2]; simp [digC])
          clear hd2 hd
          go_wp2_with fail
          refine (HDG.out d _).mono ?_
          rintro e w7 ⟨rfl, rfl⟩
          dsimp only
          go_wp2_with fail
          go_meet
          exact ⟨_, rfl, HR, rfl⟩
        obtain ⟨G2, rfl, HG2, rfl⟩ := hcut
        have hnd : (digC b = true ∨ (b = 46 ∧ digC (byt a0 (p + 1)) = true)) ↔ G2 = true := by rw [← HG2.out]; simp
        cases G2 with
        | false =>
          rw [if_neg (by rw [hnd]; simp)] at HM
          have hm := HM.out
          injection hm with ek ee eu ef
          subst ek ee eu ef
          clear hnd
          go_wp2_with fail
          go_meet
          exact ⟨by simp, rfl, rfl, rfl, rfl⟩
        | true => as_aux_lemma =>
        rw [if_pos (by rw [hnd])] at HM
        clear hnd
        obtain ⟨D1, hD1⟩ : ∃ D1, run digC a0 p = D1 := ⟨_, rfl⟩
        obtain ⟨D2, hD2⟩ : ∃ D2, dotE a0 D1 = D2 := ⟨_, rfl⟩
        have hD1l : D1 ≤ a0.size := by rw [← hD1]; exact run_le _ a0 p (by omega)
        have hD2l : D2 ≤ a0.size := by rw [← hD2]; exact (dotE_ge a0 D1 hD1l).2
        have hD2g : p ≤ D2 := by have h1 := run_ge digC a0 p (by omega); have h2 := (dotE_ge a0 D1 hD1l).1; omega
        rw [hD1, hD2] at HM
        have HD1 := Lib.hid hD1
        have HD2 := Lib.hid hD2
        clear hD1 hD2
        go_upto_block 6 with fail
        go_cut [12] from 139 to 150 (fun q wx => q = .int .i64 (D1 : Nat) ∧ wr = wx)
        case first =>
          go_wp2_with fail
          go_loopw [12] (fun a w' => ∃ r : Nat, a = .int .i64 r ∧ wr = w' ∧ r ≤ a0.size ∧ Hid (D1 = run digC a0 r)) (fun a w' => a0.size - (intOf a).toNat)
          case atStart => exact ⟨p, by simp, rfl, by omega, Lib.hid HD1.out.symm⟩
          case round =>
            obtain ⟨r, rfl, rfl, hr, HR⟩ := hrel
            by_cases hlr : r < a0.size
            case neg =>
              have HX := Lib.hid (show D1 = r by rw [HR.out]; exact run_stop _ a0 r (fun h => absurd h hlr))
              go_wp2_with fail
              go_meet
              exact ⟨by rw [HX.out], rfl⟩
            obtain ⟨d, hd⟩ : ∃ d, (a0[r]'hlr).toNat = d := ⟨_, rfl⟩
            have g1 : ((a0[r]'hlr).toNat : Int) = (d : Int) := by omega
            have HDY := Lib.hid (show byt a0 r = d by rw [← byt_at a0 r hlr]; exact hd)
            clear hd
            go_wp2_with fail
            refine (HDG.out d _).mono ?_
            rintro e w7 ⟨rfl, rfl⟩
            dsimp only
            cases hgd : digC d with
            | true =>
              have HS := Lib.hid (show D1 = run digC a0 (r + 1) by rw [HR.out]; exact run_go _ a0 r hlr (by rw [HDY.out]; exact hgd))
              clear hgd
              go_wp2_with fail
              go_roundw
              case rel => exact ⟨r + 1, by simp, by trivial, by omega, HS⟩
              case measure => simp only [intOf]; omega
            | false =>
              have HX := Lib.hid (show D1 = r by rw [HR.out]; exact run_stop _ a0 r (fun _ => by rw [HDY.out]; exact hgd))
              clear hgd
              go_wp2_with fail
              go_meet
              exact ⟨by rw [HX.out], rfl⟩
        obtain ⟨rfl, rfl⟩ := hcut
        go_upto_region 54 with fail
        go_cut [159] from 151 to 159 (fun v wx => ∃ G3, v = .bool G3 ∧ Hid (decide (byt a0 D1 = 46) = G3) ∧ wr = wx)
        case first =>
          by_cases hq : D1 < a0.size
          case neg =>
            have HR := Lib.hid (show decide (byt a0 D1 = 46) = false by rw [byt_end a0 D1 (by omega)]; decide)
            go_wp2_with fail
            go_meet
            exact ⟨false, rfl, HR, rfl⟩
          obtain ⟨d, hd⟩ : ∃ d, (a0[D1]'hq).toNat = d := ⟨_, rfl⟩
          have g1 : ((a0[D1]'hq).toNat : Int) = (d : Int) := by omega
          have hdy : byt a0 D1 = d := by rw [← byt_at a0 D1 hq]; exact hd
          by_cases h46 : d = 46
          · have HR := Lib.hid (show decide (byt a0 D1 = 46) = true by rw [hdy]; exact decide_eq_true h46)
            subst h46
            clear hd hdy
            go_wp2_with fail
            go_meet
            exact ⟨true, rfl, HR, rfl⟩
          · have HR := Lib.hid (show decide (byt a0 D1 = 46) = false by rw [hdy]; exact decide_eq_false h46)
            have e46 : ((d : Int) == 46) = false := by rw [beq_eq_false_iff_ne]; omega
            clear hd hdy h46
            go_wp2_with fail
            go_meet
            exact ⟨false, rfl, HR, rfl⟩
        obtain ⟨G3, rfl, HG3, rfl⟩ := hcut
        go_upto_if 159 with fail
        go_cut [12] from 160 to 172 (fun q wx => q = .int .i64 (D2 : Nat) ∧ wr = wx)
        case first =>
          cases G3 with
          | false =>
            have HX := Lib.hid (show D2 = D1 by rw [← HD2.out]; unfold dotE; rw [if_neg (of_decide_eq_false HG3.out)])
            go_wp2_with fail
            go_meet
            exact ⟨by rw [HX.out], rfl⟩
          | true =>
            have h46 := of_decide_eq_true HG3.out
            have hq1 : D1 < a0.size := byt_lt_size a0 D1 (by omega)
            have HX := Lib.hid (show D2 = run digC a0 (D1 + 1) by rw [← HD2.out]; unfold dotE; rw [if_pos h46]; rfl)
            clear h46
            go_wp2_with fail
            go_loopw [12] (fun a w' => ∃ r : Nat, a = .int .i64 r ∧ wr = w' ∧ r ≤ a0.size ∧ Hid (D2 = run digC a0 r)) (fun a w' => a0.size - (intOf a).toNat)
            case atStart => exact ⟨D1 + 1, by simp, rfl, by omega, HX⟩
            case round =>
              obtain ⟨r, rfl, rfl, hr, HR⟩ := hrel
              by_cases hlr : r < a0.size
              case neg =>
                have HX := Lib.hid (show D2 = r by rw [HR.out]; exact run_stop _ a0 r (fun h => absurd h hlr))
                go_wp2_with fail
                go_meet
                exact ⟨by rw [HX.out], rfl⟩
              obtain ⟨d, hd⟩ : ∃ d, (a0[r]'hlr).toNat = d := ⟨_, rfl⟩
              have g1 : ((a0[r]'hlr).toNat : Int) = (d : Int) := by omega
              have HDY := Lib.hid (show byt a0 r = d by rw [← byt_at a0 r hlr]; exact hd)
              clear hd
              go_wp2_with fail
              refine (HDG.out d _).mono ?_
              rintro e w7 ⟨rfl, rfl⟩
              dsimp only
              cases hgd : digC d with
              | true =>
                have HS := Lib.hid (show D2 = run digC a0 (r + 1) by rw [HR.out]; exact run_go _ a0 r hlr (by rw [HDY.out]; exact hgd))
                clear hgd
                go_wp2_with fail
                go_roundw
                case rel => exact ⟨r + 1, by simp, by trivial, by omega, HS⟩
                case measure => simp only [intOf]; omega
              | false =>
                have HX := Lib.hid (show D2 = r by rw [HR.out]; exact run_stop _ a0 r (fun _ => by rw [HDY.out]; exact hgd))
                clear hgd
                go_wp2_with fail
                go_meet
                exact ⟨by rw [HX.out], rfl⟩
        obtain ⟨rfl, rfl⟩ := hcut
        unfold gnum at HM
        by_cases hq : D2 < a0.size
        case neg =>
          rw [byt_end a0 D2 (by omega), if_neg (by decide), if_neg (by decide)] at HM
          have hm := HM.out
          injection hm with ek ee eu ef
          subst ek ee eu ef
          go_wp2_with fail
          go_meet
          exact ⟨by simp, rfl, rfl, rfl, rfl⟩
        obtain ⟨d, hd⟩ : ∃ d, (a0[D2]'hq).toNat = d := ⟨_, rfl⟩
        have g1 : ((a0[D2]'hq).toNat : Int) = (d : Int) := by omega
        rw [show byt a0 D2 = d by rw [← byt_at a0 D2 hq]; exact hd] at HM
        have HN1 := Lib.hid (HNE.out D2 hD2l wr)
        clear hd
        go_wp2_with fail
        refine (HGL.out d _).mono ?_
        rintro e w7 ⟨rfl, rfl⟩
        dsimp only
        cases hl : glC d with
        | true =>
          rw [hl, if_pos rfl] at HM
          have hm := HM.out
          injection hm with ek ee eu ef
          subst ek ef
          have HE := Lib.hid ee
          have HU2 := Lib.hid (show ((D2 : Int) - (p : Int)) = ((tu : Nat) : Int) by omega)
          clear ee eu hl
          go_wp2_with fail
          refine (HN1.out).mono ?_
          rintro e w7 ⟨rfl, rfl⟩
          dsimp only
          go_wp2_with fail
          go_meet
          exact ⟨by rw [HE.out], rfl, rfl, by rw [← HU2.out], rfl⟩
        | false =>
        rw [hl, if_neg (by simp)] at HM
        clear hl
        by_cases h37 : d = 37
        · subst h37
          rw [if_pos rfl] at HM
          have hm := HM.out
          injection hm with ek ee eu ef
          subst ek ee eu ef
          go_wp2_with fail
          go_meet
          exact ⟨by simp, rfl, rfl, rfl, rfl⟩
        · rw [if_neg h37] at HM
          have e37 : ((d : Int) == 37) = false := by rw [beq_eq_false_iff_ne]; omega
          have hm := HM.out
          injection hm with ek ee eu ef
          subst ek ee eu ef
          clear h37
          go_wp2_with fail
          go_meet
          exact ⟨by simp, rfl, rfl, rfl, rfl⟩
      case rest => as_aux_lemma =>
        obtain ⟨rfl, rfl, rfl, rfl, rfl⟩ := hcut
        obtain ⟨g, rfl, hg1, hg2, hcell⟩ := row_cell HV.out.2.2.1 (by omega)
        have hbx : Below w5.heap.size w5 wr := HB6.out.trans (HB.out.2.mono HB6.out.size)
        have hget : ∀ d, d < 5 → (tkC a0 0 J)[j * 5 + d]? = (tkA a0 p)[d]? := fun d hd => by rw [tkC_get a0 0 j d hd J hlt2, HB.out.1]
        unfold tkA at hget
        rw [← HT0.out, HTK.out] at hget
        obtain ⟨e1, e2, k0, k1, fl, un, nu⟩ := OK
        dsimp only at e1 e2 k1 fl un hget
        have htu : tu < 65536 := by
          by_cases h26 : tk = 26
          · rw [if_pos h26] at un; exact un.2
          · rw [if_neg h26] at un; omega
        have htf : tf ≤ 1 := by
          by_cases h28 : tk = 28
          · rw [if_pos h28] at fl; exact fl
          · rw [if_neg h28] at fl; omega
        obtain ⟨L, hL⟩ : ∃ L, te - p = L := ⟨_, rfl⟩
        have hLi : (te : Int) - (p : Int) = (L : Int) := by omega
        have hL2 : L ≤ 60000 := by omega
        have hc : ∀ i, i < J * 5 → wr.cell? ⟨g, i, none⟩ = (tkC a0 0 J)[i]? := fun i hi => by rw [hbx.cell hg2]; exact hcell i hi
        have q0 := (hc (j * 5 + 0) (by omega)).trans (hget 0 (by omega))
        have q1 := (hc (j * 5 + 1) (by omega)).trans (hget 1 (by omega))
        have q2 := (hc (j * 5 + 2) (by omega)).trans (hget 2 (by omega))
        have q3 := (hc (j * 5 + 3) (by omega)).trans (hget 3 (by omega))
        have q4 := (hc (j * 5 + 4) (by omega)).trans (hget 4 (by omega))
        simp only [Nat.add_zero, List.getElem?_cons_zero, List.getElem?_cons_succ] at q0 q1 q2 q3 q4
        rw [hLi] at q1
        have hj2 : (j : Int) < (J : Int) := by omega
        have HPN := Lib.hid (show pos a0 0 (j + 1) = te by rw [pos, HB.out.1, ← HT0.out, HTK.out])
        have HE2 := Lib.hid e2
        have HBN := Lib.hid (HB.out.2.alloc HB.out.2.size (.cells #[.int .i32 (p : Int), .int .i32 (L : Int), .int .u16 (tu : Int), .int .u8 (tk : Int), .int .u8 (tf : Int)] 41))
        clear hcell hget k0 fl un nu hc hbx e1 hL
        go_wp2_with fail
        go_roundw
        case rel => exact ⟨j + 1, te, by simp, by simp, by omega, Lib.hid ⟨HPN.out, HBN.out⟩⟩
        case measure => simp only [intOf]; omega
end Go.Proofs.YtocciemgdikmjaaDoor
