/-
  Tokenize: the row of tokens.
-/
import Derived.Test.YtocciemgdikmjaaDoorD14
import Derived.Test.YtocciemgdikmjaaDoorM2
namespace Go.Proofs.YtocciemgdikmjaaDoor
open Go.ChangeShapes Go.WideShapes Go.ChangeAt Go.RowKit
open Go.Lib (decodeN decode_at decodeGo)
set_option linter.unusedVariables false
theorem set7 {W : World} {R : Nat} (h : W.heap[R]? = some (.cells resZ 34)) (a b c d e f k : Value) : (((((((W.setCell ⟨R, 0, none⟩ a).setCell ⟨R, 1, none⟩ b).setCell ⟨R, 2, none⟩ c).setCell ⟨R, 3, none⟩ d).setCell ⟨R, 4, none⟩ e).setCell ⟨R, 5, none⟩ f).setCell ⟨R, 6, none⟩ k).heap[R]? = some (.cells #[a, b, c, d, e, f, k] 34) := by
  have h0 := heap_setCell_same _ R 0 _ 34 a h
  have h1 := heap_setCell_same _ R 1 _ 34 b h0
  have h2 := heap_setCell_same _ R 2 _ 34 c h1
  have h3 := heap_setCell_same _ R 3 _ 34 d h2
  have h4 := heap_setCell_same _ R 4 _ 34 e h3
  have h5 := heap_setCell_same _ R 5 _ 34 f h4
  have h6 := heap_setCell_same _ R 6 _ 34 k h5
  simpa using h6
theorem own_set {w : World} {B e size n : Nat} {v : Value} {xs : List Value} (h : w.ownsRow B e size v n xs) (g : Nat) (hg : g < B) (i : Nat) (u : Value) : (w.setCell ⟨g, i, none⟩ u).ownsRow B e size v n xs := ownsRow_setCell_below h (a := ⟨g, i, none⟩) hg u
theorem resZ_cells {W : World} {R : Nat} (h : W.heap[R]? = some (.cells resZ 34)) : W.cell? ⟨R, 0, none⟩ = some (.slice none 0 0) ∧ W.cell? ⟨R, 1, none⟩ = some (.slice none 0 0) ∧ W.cell? ⟨R, 2, none⟩ = some (.slice none 0 0) ∧ W.cell? ⟨R, 3, none⟩ = some (.string ⟨#[]⟩) ∧ W.cell? ⟨R, 4, none⟩ = some (.int .i32 0) ∧ W.cell? ⟨R, 5, none⟩ = some (.int .i32 0) ∧ W.cell? ⟨R, 6, none⟩ = some (.int .i32 0) ∧ ∀ i, W.frozen? ⟨R, i, none⟩ = false :=
  ⟨cell_of h 0, cell_of h 1, cell_of h 2, cell_of h 3, cell_of h 4, cell_of h 5, cell_of h 6, fun i => by simp only [World.frozen?, h]; simp⟩
set_option maxRecDepth 100000 in
set_option maxHeartbeats 4000000 in
theorem tz50 (s : ByteArray) (b : Bool) (w : World) (hT : Lib.Utf8Tabs 0 1 w) (hs : s.size ≤ 1048576) (hD : Dom s) (hU : NoUrl s) : Calls Tryd.prog 50 #[.agg logL, .agg (srcL s), .agg #[.bool b]] w fun e w' => TokSaid w s (bomE s) e w' := by
  have HT := Lib.hid hT; have HD := Lib.hid hD; have HU := Lib.hid hU
  have hn26 := fun w => slice_none_neq (t := 26) Tryd.underlying26 w
  clear hT hD hU
  go_enter Tryd.func50, Tryd.ntmps50
  go_wp2_with fail
  go_upto_region 1 with fail
  go_cut [7] (fun v wx => ∃ g : Nat, v = .pointer (some ⟨g, 0, none⟩) ∧ Hid (wx.heap[g]? = some (.cells (lexT s b) 73) ∧ wx.heap[w.heap.size + 3]? = some (.cells resZ 34) ∧ w.heap.size + 3 < g ∧ Below w.heap.size w wx))
  case first =>
    clear hn26
    obtain ⟨h1, h2, h3, h4, hsz, hB4⟩ := blocks4 w (.cells logL 59) (.cells (srcL s) 69) (.cells #[.bool b] 51) (.cells resZ 34)
    have HB4 := Lib.hid hB4
    clear hB4
    obtain ⟨wx, hW⟩ : ∃ wx, W4 s b w = wx := ⟨_, rfl⟩
    unfold W4 at hW
    rw [hW] at h1 h2 h3 h4 HB4 hsz
    rw [hW]
    have H1 := Lib.hid h1; have H2 := Lib.hid h2; have H3 := Lib.hid h3; have H4 := Lib.hid h4
    clear h1 h2 h3 h4 hW
    have hlt0 : w.heap.size < wx.heap.size := by omega
    have hlt1 : w.heap.size + 1 < wx.heap.size := by omega
    have hlt2 : w.heap.size + 1 + 1 < wx.heap.size := by omega
    have HSZ := Lib.hid hsz
    clear hsz
    refine wp_region_held_drew (S := fun w' => (w'.cell? ⟨w.heap.size, 0, none⟩ = some (.nilFunc) ∧ w'.cell? ⟨w.heap.size, 1, none⟩ = some (.nilFunc) ∧ w'.cell? ⟨w.heap.size, 2, none⟩ = some (.nilFunc) ∧ w'.cell? ⟨w.heap.size, 3, none⟩ = some (.nilFunc) ∧ w'.cell? ⟨w.heap.size, 4, none⟩ = some (.int .i8 0) ∧ w'.cell? ⟨w.heap.size, 5, none⟩ = some (.map none) ∧ w'.cell? ⟨w.heap.size + 1, 0, none⟩ = some (.string ⟨#[]⟩) ∧ w'.cell? ⟨w.heap.size + 1, 1, none⟩ = some (.string ⟨#[]⟩) ∧ w'.cell? ⟨w.heap.size + 1, 2, none⟩ = some (.string ⟨#[]⟩) ∧ w'.cell? ⟨w.heap.size + 1, 3, none⟩ = some (.string s) ∧ w'.cell? ⟨w.heap.size + 1, 4, none⟩ = some (.string ⟨#[]⟩) ∧ w'.cell? ⟨w.heap.size + 1, 5, none⟩ = some (.string ⟨#[]⟩) ∧ w'.cell? ⟨w.heap.size + 1, 6, none⟩ = some (.string ⟨#[]⟩) ∧ w'.cell? ⟨w.heap.size + 1, 7, none⟩ = some (.string ⟨#[]⟩) ∧ w'.cell? ⟨w.heap.size + 1, 8, none⟩ = some (.int .u8 0) ∧ w'.cell? ⟨w.heap.size + 1, 9, none⟩ = some (.int .u32 0) ∧ w'.cell? ⟨w.heap.size + 1 + 1, 0, none⟩ = some (.bool b)) ∧ Below wx.heap.size wx w') (by kernel_rfl) (S17_of H1.out H2.out H3.out (Below.drew (Below.refl _ _))) (fun hHeld => ?_)
    refine wpAnyH_take (i := 0) (v := .agg #[.bool b]) rfl (by kernel_rfl) (by kernel_rfl) (by kernel_rfl) (fun _ _ _ h => h) (Or.inl ⟨by rfl, ?_⟩) (by assumption) ?_
    · intro w hSw
      go_simp
    try simp only [Act.put]
    refine wpAnyH_take (i := 1) (v := .agg #[.nilFunc, .nilFunc, .nilFunc, .nilFunc, .int .i8 0, .map none]) rfl (by kernel_rfl) (by kernel_rfl) (by kernel_rfl) (fun _ _ _ h => h) (Or.inl ⟨by rfl, ?_⟩) (by assumption) ?_
    · intro w hSw
      go_simp
    try simp only [Act.put]
    refine wpAnyH_take (i := 2) (v := .agg #[.string ⟨#[]⟩, .string ⟨#[]⟩, .string ⟨#[]⟩, .string s, .string ⟨#[]⟩, .string ⟨#[]⟩, .string ⟨#[]⟩, .string ⟨#[]⟩, .int .u8 0, .int .u32 0]) rfl (by kernel_rfl) (by kernel_rfl) (by kernel_rfl) (fun _ _ _ h => h) (Or.inl ⟨by rfl, ?_⟩) (by assumption) ?_
    · intro w hSw
      go_simp
    try simp only [Act.put]
    refine wpAnyH_ready (rs := [3, 5]) (by kernel_rfl) (by simp) ?_
    refine AllReadyH.cons rfl (fun K hK => ?_) ?_
    · go_simp
      go_at_call 68
      refine (ml68 s _ (w.heap.size + 1) hHeld.1.2.2.2.2.2.2.1 hHeld.1.2.2.2.2.2.2.2.1 hHeld.1.2.2.2.2.2.2.2.2.2.1).mono ?_
      rintro e w1 ⟨rfl, hb1⟩
      have bel1 : Below wx.heap.size wx w1 := hHeld.2.trans (hb1.mono hHeld.2.size)
      dsimp only
      refine hK.out _ _ (S17_of H1.out H2.out H3.out bel1) (fun hHeld1 => ?_)
      clear hK hHeld
      try simp only [Act.put]
      refine wpAnyH_take (i := 4) (oi := { dst := some 18, op := Op.build 73 #[(0, Operand.tmp 14), (1, Operand.tmp 15), (2, Operand.tmp 16), (6, Operand.tmp 17)], type := 73, pos := "css_lexer.go:208", after := #[{ on := 0, ground := Ground.data }, { on := 1, ground := Ground.data }, { on := 2, ground := Ground.data }, { on := 3, ground := Ground.data }], guard := none }) (v := .agg (lexT s b)) rfl (by kernel_rfl) (by kernel_rfl) (by kernel_rfl) (fun _ _ _ h => h) (Or.inl ⟨by rfl, ?_⟩) hHeld1 ?_
      · intro w hSw
        go_simp
      try simp only [Act.put]
      refine wpAnyH_ready (rs := [5]) (by kernel_rfl) (by simp) ?_
      refine AllReadyH.cons rfl (fun K hK => ?_) AllReadyH.nil
      go_simp
      refine hK.out _ _ (S17_of H1.out H2.out H3.out (Below.alloc bel1 bel1.size _)) (fun hHeld2 => ?_)
      clear hK
      try simp only [Act.put]
      refine wpAnyH_ready (rs := [6]) (by kernel_rfl) (by simp) ?_
      refine AllReadyH.cons (o := { dst := none, op := Op.store 73 (Operand.tmp 7) (Operand.tmp 18), type := 0, pos := "css_lexer.go:208", after := #[{ on := 5, ground := Ground.data }, { on := 4, ground := Ground.data }, { on := 3, ground := Ground.chain }, { on := 0, ground := Ground.phase }, { on := 1, ground := Ground.phase }, { on := 2, ground := Ground.phase }, { on := 3, ground := Ground.phase }, { on := 4, ground := Ground.phase }, { on := 5, ground := Ground.phase }], guard := none }) rfl (fun K hK => ?_) AllReadyH.nil
      rw [if_pos (by rfl)]
      refine wp_store_row 73 _ _ rfl w1.heap.size (lexT s b) rfl rfl 73 lexZ (heap_alloc_new w1 _) (by kernel_rfl) rfl (by kernel_rfl) ?_
      refine hK.out _ _ (S17_of H1.out H2.out H3.out (below_setRow (Below.alloc bel1 bel1.size _) bel1.size _)) (fun hHeld3 => ?_)
      try simp only [Act.put]
      refine wpAnyH_done (by kernel_rfl) ?_ _
      go_wp2_with fail
      go_meet
      have b1 := bel1.size
      have bx : Below wx.heap.size wx ((w1.alloc (.cells lexZ 73)).setRow w1.heap.size (lexT s b)) := below_setRow (Below.alloc bel1 bel1.size _) bel1.size _
      exact ⟨w1.heap.size, rfl, Lib.hid ⟨setRow_heap _ _ _ _ _ _ (heap_alloc_new w1 _), (bx.block _ (by have := HSZ.out; omega)).trans H4.out, by have := HSZ.out; omega, HB4.out.trans (bx.mono HB4.out.size)⟩⟩
    refine AllReadyH.cons rfl (fun K hK => ?_) AllReadyH.nil
    go_simp
    refine hK.out _ _ (S17_of H1.out H2.out H3.out (Below.drew (Below.alloc (Below.refl _ _) (Nat.le_refl _) _))) (fun hHeld1 => ?_)
    clear hK
    try simp only [Act.put]
    refine wpAnyH_ready (rs := [3]) (by kernel_rfl) (by simp) ?_
    refine AllReadyH.cons rfl (fun K hK => ?_) AllReadyH.nil
    go_simp
    go_at_call 68
    refine (ml68 s _ (w.heap.size + 1) hHeld1.1.2.2.2.2.2.2.1 hHeld1.1.2.2.2.2.2.2.2.1 hHeld1.1.2.2.2.2.2.2.2.2.2.1).mono ?_
    rintro e w1 ⟨rfl, hb1⟩
    have bel1 : Below wx.heap.size wx w1 := hHeld1.2.trans (hb1.mono hHeld1.2.size)
    have HN : w1.heap[wx.heap.size]? = some (.cells lexZ 73) := (hb1.block wx.heap.size (by simp)).trans (heap_alloc_new wx _)
    dsimp only
    refine hK.out _ _ (S17_of H1.out H2.out H3.out bel1) (fun hHeld2 => ?_)
    clear hK
    try simp only [Act.put]
    refine wpAnyH_take (i := 4) (oi := { dst := some 18, op := Op.build 73 #[(0, Operand.tmp 14), (1, Operand.tmp 15), (2, Operand.tmp 16), (6, Operand.tmp 17)], type := 73, pos := "css_lexer.go:208", after := #[{ on := 0, ground := Ground.data }, { on := 1, ground := Ground.data }, { on := 2, ground := Ground.data }, { on := 3, ground := Ground.data }], guard := none }) (v := .agg (lexT s b)) rfl (by kernel_rfl) (by kernel_rfl) (by kernel_rfl) (fun _ _ _ h => h) (Or.inl ⟨by rfl, ?_⟩) hHeld2 ?_
    · intro w hSw
      go_simp
    try simp only [Act.put]
    refine wpAnyH_ready (rs := [6]) (by kernel_rfl) (by simp) ?_
    refine AllReadyH.cons (o := { dst := none, op := Op.store 73 (Operand.tmp 7) (Operand.tmp 18), type := 0, pos := "css_lexer.go:208", after := #[{ on := 5, ground := Ground.data }, { on := 4, ground := Ground.data }, { on := 3, ground := Ground.chain }, { on := 0, ground := Ground.phase }, { on := 1, ground := Ground.phase }, { on := 2, ground := Ground.phase }, { on := 3, ground := Ground.phase }, { on := 4, ground := Ground.phase }, { on := 5, ground := Ground.phase }], guard := none }) rfl (fun K hK => ?_) AllReadyH.nil
    rw [if_pos (by rfl)]
    refine wp_store_row 73 _ _ rfl wx.heap.size (lexT s b) rfl rfl 73 lexZ HN (by kernel_rfl) rfl (by kernel_rfl) ?_
    refine hK.out _ _ (S17_of H1.out H2.out H3.out (below_setRow bel1 (Nat.le_refl _) _)) (fun hHeld3 => ?_)
    try simp only [Act.put]
    refine wpAnyH_done (by kernel_rfl) ?_ _
    go_wp2_with fail
    go_meet
    have b1 := bel1.size
    have bx : Below wx.heap.size wx (w1.setRow wx.heap.size (lexT s b)) := below_setRow bel1 (Nat.le_refl _) _
    exact ⟨wx.heap.size, rfl, Lib.hid ⟨setRow_heap _ _ _ _ _ _ HN, (bx.block _ (by have := HSZ.out; omega)).trans H4.out, by have := HSZ.out; omega, HB4.out.trans (bx.mono HB4.out.size)⟩⟩
  case rest =>
    obtain ⟨g, rfl, HX⟩ := hcut
    have hc1 := lexT_CL HX.out.1
    have HS0 := Lib.hid (step0 _ g s 0 hc1 (tabs_below HT.out HX.out.2.2.2) hs)
    clear hc1
    go_wp2_with fail
    refine (HS0.out).mono ?_
    rintro e w2 ⟨rfl, ha, hst⟩
    have hsp := start_pl HX.out.1 HX.out.2.2.2 (by have := HX.out.2.2.1; omega) HT.out ha hst
    obtain ⟨C, hC⟩ : ∃ C : Nat → Option Value, (fun i => w2.cell? ⟨g, i, none⟩) = C := ⟨_, rfl⟩
    rw [hC] at hsp
    have HP0 := Lib.hid hsp.1
    have HCF := Lib.hid hsp.2
    have HR0 := Lib.hid (show w2.heap[w.heap.size + 3]? = some (.cells resZ 34) from (hst.by_.block _ (Array.getElem?_eq_some_iff.1 HX.out.2.1).1 (by intro e; injection e; have := HX.out.2.2.1; omega)).trans HX.out.2.1)
    obtain ⟨R, hR⟩ : ∃ R, w.heap.size + 3 = R := ⟨_, rfl⟩
    have HRg := Lib.hid (show R < g ∧ w.heap.size ≤ R from by have := HX.out.2.2.1; omega)
    rw [show w.heap.size + 1 + 1 + 1 = R by omega]
    rw [hR] at HR0
    obtain ⟨l, c10, c32, c33, c35, c36, c37, fz⟩ := id HP0.out.at_
    clear ha hst hsp hC HX HS0 hR
    dsimp only
    go_upto_if 22 with fail
    go_cut [] (fun wx => Hid (Pl w wx g s C (bomE s) 0 0 0 0 ∧ wx.heap[R]? = some (.cells resZ 34)))
    case first =>
      by_cases hbm : cpOf s 0 = 65279
      · have d1 : (cpOf s 0 == 65279) = true := by rw [beq_iff_eq]; exact hbm
        have HE := Lib.hid (show bomE s = 0 + wid s 0 by unfold bomE; rw [if_pos hbm, Nat.zero_add])
        have HS1 := Lib.hid (step_pl HP0.out (Nat.zero_le _) hs (Nat.le_refl _))
        clear hbm
        go_wp2_with fail
        refine (HS1.out).mono ?_
        rintro e w3 ⟨rfl, hg⟩
        have HG := Lib.hid hg
        clear hg
        dsimp only
        go_wp2_with fail
        go_meet
        exact Lib.hid ⟨by rw [HE.out]; exact HG.out.1, (HG.out.2.block _ (Array.getElem?_eq_some_iff.1 HR0.out).1 (by intro e; injection e; have := HRg.out; omega)).trans HR0.out⟩
      · have d1 : (cpOf s 0 == 65279) = false := by rw [beq_eq_false_iff_ne]; exact hbm
        have HE := Lib.hid (show bomE s = 0 by unfold bomE; rw [if_neg hbm])
        clear hbm
        go_wp2_with fail
        go_meet
        exact Lib.hid ⟨by rw [HE.out]; exact HP0.out, HR0.out⟩
    case rest =>
      have HP1 := Lib.hid hcut.out.1
      have HR1 := Lib.hid hcut.out.2
      have HN0 := Lib.hid (next63 HP1.out (bomE_le s) hs (Nat.zero_le _) HD.out HU.out)
      clear hcut
      go_wp2_with fail
      refine (HN0.out).mono ?_
      rintro e w3 ⟨rfl, hg⟩
      have HRT0 := Lib.hid (show RT w g R s C (bomE s) (.slice none 0 0) 0 (bomE s) w3 from ⟨rfl, fun i hi => absurd hi (by omega), bomE_le s, Nat.zero_le _, hg.1, (hg.2.block _ (Array.getElem?_eq_some_iff.1 HR1.out).1 (by intro e; injection e; have := HRg.out; omega)).trans HR1.out, World.ownsRow_nil w3 (g + 1) 41 5⟩)
      clear hg l c10 c32 c33 c35 c36 c37 fz
      dsimp only
      go_wp2_with fail
      go_loopg [8, 9] (s.size + 1 - bomE s) (fun n v v9 wx => ∃ j q W, W = wx ∧ v9 = .slice none 0 0 ∧ Hid (n + q = s.size + 1 ∧ RT w g R s C (bomE s) v j q W))
      case atStart => exact ⟨0, bomE s, _, rfl, rfl, Lib.hid ⟨by have := bomE_le s; omega, HRT0.out⟩⟩
      case round =>
        obtain ⟨j, q, W, rfl, rfl, HR⟩ := hrel
        rename_i v _
        obtain ⟨a, c, rfl⟩ := row_slice HR.out.2.row
        have hrt := HR.out.2
        have k18 := (hrt.pl.oth 18 (by omega)).trans HCF.out.2.1
        by_cases hq : q < s.size
        case neg =>
          obtain rfl : q = s.size := by have := hrt.le; omega
          have ht0 : tok s s.size = ⟨0, s.size, 0, 0⟩ := by unfold tok; rw [if_pos (Nat.le_refl _)]
          have hpl := hrt.pl
          rw [ht0] at hpl
          have HPL := Lib.hid (show Pl w W g s C s.size s.size (0 : Nat) (0 : Nat) (0 : Nat) from hpl)
          obtain ⟨l, c10, c32, c33, c35, c36, c37, fz⟩ := id HPL.out.at_
          have c39 := HPL.out.c39
          have k17 := (hrt.pl.oth 17 (by omega)).trans HCF.out.1
          have k19 := (hrt.pl.oth 19 (by omega)).trans HCF.out.2.2.1
          have k20 := (hrt.pl.oth 20 (by omega)).trans HCF.out.2.2.2.1
          have k21 := (hrt.pl.oth 21 (by omega)).trans HCF.out.2.2.2.2
          have hcz : cnt s (s.size + 1) = cnt s s.size := by rw [cnt_succ, if_neg (by omega)]; rfl
          rw [hcz] at c32
          obtain ⟨n, hn⟩ : ∃ n, cnt s s.size = n := ⟨_, rfl⟩
          have hnl : n ≤ 1048576 := by rw [← hn]; have := cnt_le s s.size; omega
          rw [hn] at c32
          have HNN := Lib.hid hn
          have HRS := Lib.hid hrt.rs
          have HFIN := Lib.hid hrt
          clear hpl ht0 hcz hn hrt hq HR
          obtain ⟨r0, r1, r2, r3, r4, r5, r6, rf⟩ := resZ_cells HRS.out
          go_wp2_with fail
          refine bodyPost_ret (results_cell_row rfl _ _ R 34 (resL (.slice a j c) n) (0, 0) _ rfl ?_ Tryd.underlying34 rfl (by kernel_rfl)) rfl ⟨_, j, by rw [HNN.out], HFIN.out.lt, HFIN.out.q0, ?_, ?_⟩
          · exact set7 HRS.out _ _ _ _ _ _ _
          · have hrg := HRg.out
            have hg1 : w.heap.size ≤ g + 1 := by omega
            have hR1 : R < g + 1 := by omega
            exact own_mono (own_set (own_set (own_set (own_set (own_set (own_set (own_set HFIN.out.row R hR1 _ _) R hR1 _ _) R hR1 _ _) R hR1 _ _) R hR1 _ _) R hR1 _ _) R hR1 _ _) hg1
          · have hRw := HRg.out.2
            exact below_set (below_set (below_set (below_set (below_set (below_set (below_set HFIN.out.pl.be hRw _ _) hRw _ _) hRw _ _) hRw _ _) hRw _ _) hRw _ _) hRw _ _
        obtain ⟨T, hT⟩ : ∃ T, tok s q = T := ⟨_, rfl⟩
        have OK := tok_ok HD.out q hq
        rw [hT] at OK
        have HTK := Lib.hid hT
        have hpl := hrt.pl
        rw [hT] at hpl
        cases T with
        | mk tk te tu tf =>
        obtain ⟨e1, e2, k0, k1, fl, un, nu⟩ := OK
        dsimp only at e1 e2 k0 hpl
        clear k1 fl un nu hT
        obtain ⟨l, c10, c32, c33, c35, c36, c37, fz⟩ := id hpl.at_
        have c38 := hpl.c38
        have c39 := hpl.c39
        have c40 := hpl.c40
        have d0 : ((tk : Int) == 0) = false := by rw [beq_eq_false_iff_ne]; omega
        have HJ := Lib.hid (show j ≤ 1048576 from by have := hrt.jq; omega)
        have HOA := Lib.hid (World.ownsRow.alloc hrt.row (.cells #[.int .i32 (q : Int), .int .i32 ((te : Int) - (q : Int)), .int .u16 (tu : Int), .int .u8 (tk : Int), .int .u8 (tf : Int)] 41))
        have HPL := Lib.hid hpl
        have HRTJ := Lib.hid hrt
        have HE := Lib.hid (And.intro e1 e2)
        have HQ := Lib.hid hq
        obtain ⟨i0, hin, hz0, hz1, hz2⟩ := info_parts infoTk
        have HGW := Lib.hid (show g + 1 ≤ W.heap.size from hpl.at_.lt)
        clear hrt hpl e1 e2 k0 hq
        go_wp2_with (at_builtin; refine wpList_append_own _ rfl _ _ 24 rfl (g + 1) 41 i0 (.agg #[.int .i32 0, .int .i32 0, .int .u16 0, .int .u8 0, .int .u8 0]) 5 12 Tryd.underlying24 hin hz0 hz1 hz2 rfl (by decide) (.slice a j c) j (tkC s (bomE s) j) rfl HOA.out ⟨W.heap.size, 0, none⟩ 1 1 [.int .i32 (q : Int), .int .i32 ((te : Int) - (q : Int)), .int .u16 (tu : Int), .int .u8 (tk : Int), .int .u8 (tf : Int)] rfl rfl (tk_cells _ _ _ _ _ _ _) (by intro u hu; simp at hu; rcases hu with rfl | rfl | rfl | rfl | rfl <;> rfl) (by have := HJ.out; unfold maxLen; omega) (by have := HJ.out; omega) (by have := HGW.out; simp; omega) ?_; intro v1 w4 hown1 hg1 hnil1; have HO1 := Lib.hid hown1; have HG1 := Lib.hid hg1; clear hown1 hg1 hnil1)
        have hb4 : Below (g + 1) W w4 := (((Below.refl W.heap.size W).alloc (Nat.le_refl _) _).mono HGW.out).trans (below_grownR HG1.out (g + 1) (by have := HGW.out; simp; omega) (own_blk HRTJ.out.row))
        have HB4 := Lib.hid hb4
        have HP4 := Lib.hid (HPL.out.keepB hb4)
        have HR4 := Lib.hid (show w4.heap[R]? = some (.cells resZ 34) from (hb4.block R (by have := HRg.out; omega)).trans HRTJ.out.rs)
        have HN4 := Lib.hid (next63 HP4.out HE.out.2 hs (by have := HE.out.1; omega) HD.out HU.out)
        clear hb4
        refine (HN4.out).mono ?_
        rintro e w5 ⟨rfl, hg⟩
        have hpos : pos s (bomE s) (j + 1) = te := by rw [pos, HRTJ.out.q0, HTK.out]
        have hrow : w4.ownsRow (g + 1) 41 5 v1 (j + 1) (tkC s (bomE s) (j + 1)) := by
          rw [tkC, HRTJ.out.q0]
          unfold tkA
          rw [HTK.out]
          exact HO1.out
        have HRT5 := Lib.hid (show RT w g R s C (bomE s) v1 (j + 1) te w5 from ⟨hpos, fun i hi => by
          by_cases hij : i < j
          · exact HRTJ.out.lt i hij
          · obtain rfl : i = j := by omega
            rw [HRTJ.out.q0]; exact HQ.out, HE.out.2, by have := HRTJ.out.jq; have := HE.out.1; omega, hg.1, (hg.2.block _ (Array.getElem?_eq_some_iff.1 HR4.out).1 (by intro e; injection e; have := HRg.out; omega)).trans HR4.out, own_keep hrow g (by omega) hg.2⟩)
        have HNQ := Lib.hid HR.out.1
        clear hg hpos hrow HR
        dsimp only
        go_wp2_with fail
        go_roundg (s.size + 1 - te)
        case measure => have := HNQ.out; have := HE.out.1; have := HE.out.2; omega
        case rel => exact ⟨j + 1, te, _, rfl, rfl, Lib.hid ⟨by have := HE.out.2; omega, HRT5.out⟩⟩
end Go.Proofs.YtocciemgdikmjaaDoor
