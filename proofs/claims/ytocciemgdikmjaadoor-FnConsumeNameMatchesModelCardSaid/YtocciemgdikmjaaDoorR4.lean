/-
  consumeName where an escape follows the name.
-/
import Derived.Test.YtocciemgdikmjaaDoorR3
import Derived.Deep.DeepCutAuto
namespace Go.Proofs.YtocciemgdikmjaaDoor
open Go.ChangeShapes Go.WideShapes Go.ChangeAt Go.RowKit
open Go.Lib (decodeN decode_at decodeGo encodeRuneZ)
set_option linter.unusedVariables false
theorem Go2.keepB {w0 w w1 w2 : World} {g B : Nat} {s : ByteArray} {C : Nat → Option Value} {p st : Nat} {u k f : Int} (h : Go2 w0 w w1 g s C p st u k f) (hg : g < B) (hB : w.heap.size ≤ B) (hb : Below B w1 w2) : Go2 w0 w w2 g s C p st u k f :=
  ⟨h.1.keepB (hb.mono (by omega)), ⟨hb.os.trans h.2.os, hb.tape.trans h.2.tape, hb.output.trans h.2.output, Nat.le_trans h.2.size hb.size, fun k hk hne => (hb.block k (by omega)).trans (h.2.block k hk hne)⟩⟩
def RelN (w0 w : World) (g : Nat) (s : ByteArray) (C : Nat → Option Value) (st : Nat) (u k f : Int) (B E : Nat) (L : List Int) (p : Nat) (wx : World) : Prop :=
  ∃ xs l, xs ++ l = L ∧ Nm s E p l ∧ Vd s p ∧ p ≤ s.size ∧ st ≤ p ∧ Go2 w0 w wx g s C p st u k f ∧ Lib.IsBuilder 115 5 B B (Lib.byteCells (u8s xs)) wx ∧ B ≤ wx.heap.size
set_option maxRecDepth 100000 in
set_option maxHeartbeats 8000000 in
theorem cn66x {w0 w : World} {g : Nat} {s : ByteArray} {C : Nat → Option Value} {st : Nat} {u k f : Int} (p : Nat) (h : Pl w0 w g s C p st u k f) (hp : p ≤ s.size) (hs : s.size ≤ 1048576) (hst : st = p) (hc : ncB (cpOf s p) = true) (F q0 : Nat) (hE : nmE s p = F) (hq0 : p + wid s p = q0) (hI : escN s F = true) (E : Nat) (L : List Int) (hN : Nm s E p L) (hV : Vd s p) :
    Calls Tryd.prog 66 #[.pointer (some ⟨g, 0, none⟩)] w fun e w' => e = .returned (.string (strOfNums L)) ∧ Go2 w0 w w' g s C E st u k f := by
  have hlt : p < s.size := by
    by_cases hq : p < s.size
    · exact hq
    · obtain rfl : p = s.size := by omega
      rw [nc_end] at hc; cases hc
  have hw1 := wid_pos s p hlt
  have hw2 := wid_le s p hp
  have hrun : nmE s q0 = F := by rw [← hq0, ← hE, nmE_cp s p hp, if_pos hc]
  have hq2 : q0 ≤ F := by rw [← hrun]; exact (nmE_ge s q0 (by omega)).1
  have hE2 : F ≤ s.size := by rw [← hrun]; exact (nmE_ge s q0 (by omega)).2
  have hesc := escN_nc hI
  have hFs : F < s.size := hesc.1
  have HIN := Lib.hid (show ∀ j, q0 ≤ j → j < F → ncB (byt s j : Nat) = true from fun j a b => run_inn (fun b => ncB (b : Int)) s q0 (by omega) j a (by unfold nmE at hrun; omega))
  have HJ := Lib.hid (step_jump h F (by omega) hE2 hs (by omega) (fun j a b => by
    by_cases hj : j < q0
    · have := wid_in s p hlt j a (by omega); omega
    · exact nc_no10 _ (HIN.out j (by omega) b)))
  have hall : ∀ j, p ≤ j → j < p + (F - p) → j < s.size ∧ ncB (byt s j : Nat) = true := fun j a b => by
    refine ⟨by omega, ?_⟩
    by_cases hj : j < q0
    · by_cases hjp : j = p
      · rw [hjp, ← nc_cp s p hlt]; exact hc
      · exact ncB_high _ (by have := wid_in s p hlt j (by omega) (by omega); omega)
    · exact HIN.out j (by omega) (by omega)
  obtain ⟨l1, el1, hN1⟩ := nm_run (F - p) p L hall hN
  rw [show p + (F - p) = F by omega] at hN1
  obtain ⟨XS, hXS⟩ : ∃ X, bytL s p (F - p) = X := ⟨_, rfl⟩
  rw [hXS] at el1
  obtain ⟨R, hR⟩ : ∃ R, s.extract st F = R := ⟨_, rfl⟩
  have HXS := Lib.hid (show strOfNums XS = R by rw [← hXS, str_bytL s p (F - p) (by omega), ← hR, hst, show p + (F - p) = F by omega])
  have hRs : R.size ≤ 1048576 := by rw [← hR]; simp; omega
  have hVF : Vd s F := by rw [← hE]; exact Vd.nm _ p rfl hp hV
  have hgeE := esc_ge s (F + 1) (by omega)
  have HEL := Lib.hid hesc.1; have HE92 := Lib.hid hesc.2.1
  have HST := Lib.hid (show st ≤ F by omega)
  have HLL := Lib.hid (show L.length ≤ 8388608 by have := (nm_le hN hp).2.2; omega)
  have HXL := Lib.hid (show XS.length ≤ 8388608 by have h1 := HLL.out; rw [el1, List.length_append] at h1; omega)
  have HNM := Lib.hid (show ∃ l', (XS ++ encodeRuneZ (esc s (F + 1)).1) ++ l' = L ∧ Nm s E (esc s (F + 1)).2 l' from by
    obtain ⟨l', e1, hn'⟩ := nm_escN hN1 hI
    exact ⟨l', by rw [el1, e1, List.append_assoc], hn'⟩)
  have HVE := Lib.hid (Vd.esc (hVF.asc hesc.1 (by omega)) (by omega))
  have HEE := Lib.hid hgeE.2
  have HSE := Lib.hid (show st ≤ (esc s (F + 1)).2 by omega)
  have HIV := Lib.hid (show iveB s (F + wid s F) (cpOf s F) = true by rw [ive_escN s F (by omega)]; exact hI)
  have hsum : (st : Int) + ((F : Int) - (st : Int)) = (F : Int) := by omega
  have HN := Lib.hid (en58 st ((F : Int) - st) (by omega) (by omega) (by omega))
  rw [hsum] at HN
  obtain ⟨l, c10, c32, c33, c35, c36, c37, fz⟩ := id h.at_
  rw [hq0] at c33
  have hl33 : w.cell? ⟨g, 33, none⟩ = some (.int .i64 (q0 : Nat)) := c33
  have HC := Lib.hid hc
  have HOUT := Lib.hid (show ncB (byt s F : Nat) = false from hesc.2.2)
  have hstE : st ≤ F := by omega
  clear hst
  clear h hc hI hE hrun hsum hq0 hw1 hw2 hN hN1 el1 hV hVF hesc hall hgeE hXS
  go_enter Tryd.func66, Tryd.ntmps66
  go_wp2_with fail
  refine (nc76 _ _).mono ?_
  rintro e w2 ⟨rfl, rfl⟩
  rw [HC.out]
  dsimp only
  go_wp2_with fail
  go_loopw [5] (fun a w' => ∃ i : Nat, a = .int .i64 i ∧ w = w' ∧ q0 ≤ i ∧ i ≤ F) (fun a w' => s.size - (intOf a).toNat)
  case atStart => exact ⟨q0, rfl, rfl, Nat.le_refl _, hq2⟩
  case round =>
    obtain ⟨i, rfl, rfl, hi, hiE⟩ := hrel
    have his : i < s.size := by omega
    obtain ⟨b, hb⟩ : ∃ b, (s[i]'his).toNat = b := ⟨_, rfl⟩
    have hb' : ((s[i]'his).toNat : Int) = (b : Int) := by omega
    have hb2 : b < 256 := by rw [← hb]; exact UInt8.toNat_lt _
    by_cases hlE : i < F
    · have HX := Lib.hid (show ncB (b : Int) = true by rw [← hb, byt_at]; exact HIN.out i hi hlE)
      clear hb
      go_wp2_with fail
      refine (nc76 _ _).mono ?_
      rintro e w2 ⟨rfl, rfl⟩
      rw [HX.out]
      dsimp only
      go_wp2_with fail
      go_roundw
      case rel => exact ⟨i + 1, by simp, by trivial, by omega, by omega⟩
      case measure => simp only [intOf]; omega
    · obtain rfl : i = F := by omega
      have HX := Lib.hid (show ncB (b : Int) = false by rw [← hb, byt_at]; exact HOUT.out)
      clear hb hlE hiE
      go_wp2_with fail
      refine (nc76 _ _).mono ?_
      rintro e w2 ⟨rfl, rfl⟩
      rw [HX.out]
      dsimp only
      go_wp2_with fail
      refine (HJ.out).mono ?_
      rintro e w3 ⟨rfl, hg⟩
      have HG := Lib.hid hg
      obtain ⟨l', d10, d32, d33, d35, d36, d37, fz'⟩ := id hg.1.at_
      clear hg l c10 c32 c33 c35 c36 c37 fz
      dsimp only
      go_wp2_with fail
      go_region_with ((go_at_call 58; refine (HN.out _).mono ?_; rintro e w4 ⟨rfl, be⟩; have KB := Lib.hid ((Below.refl w3.heap.size w3).drew.trans be); have HG4 := Lib.hid (HG.out.keep KB.out); obtain ⟨l2, f10, f32, f33, f35, f36, f37, fz2⟩ := id HG4.out.1.at_; clear be))
      all_goals
        go_wp2_with fail
        refine (ive_any _ g s _ (i + wid s i) (cpOf s i) _ _ HG4.out.1.at_ HG4.out.1.tabs (wid_le s i hE2) hs).mono ?_
        rintro e w5 ⟨rfl, hb5⟩
        rw [HIV.out]
        have HG5 := Lib.hid (HG4.out.keep hb5)
        have HGB := Lib.hid (HG5.out.1.at_.lt)
        have HWB := Lib.hid (HG5.out.2.size)
        clear hb5
        dsimp only
        go_wp2_with fail
        refine (ws84 w5.heap.size w5.heap.size [] R _ (Lib.fresh_isBuilder 115 5 w5) (by simp) (by omega) (by simp)).mono ?_
        rintro e w6 ⟨⟨k1, rfl⟩, hI, hb1⟩
        have HI6 := Lib.hid (show Lib.IsBuilder 115 5 w5.heap.size w5.heap.size (Lib.byteCells (u8s XS)) w6 by rw [← cells_str, HXS.out]; simpa using hI)
        have HG6 := Lib.hid (Go2.keepB HG5.out HGB.out HWB.out (((Below.refl w5.heap.size w5).alloc (Nat.le_refl _) _).trans hb1))
        have HB6 := Lib.hid (show w5.heap.size ≤ w6.heap.size by have := hb1.size; simp at this; omega)
        clear hI hb1
        dsimp only
        go_wp2_with fail
        refine (ce86 HG6.out.1 HEL.out HE92.out hs HST.out).mono ?_
        rintro e w7 ⟨rfl, hg⟩
        have HG7 := Lib.hid (HG6.out.trans hg)
        have HI7 := Lib.hid (isb_keepG HI6.out g HGB.out hg.2)
        have HB7 := Lib.hid (Nat.le_trans HB6.out hg.2.size)
        clear hg
        dsimp only
        go_wp2_with fail
        refine (wr85 w5.heap.size w5.heap.size _ ((esc s (i + 1)).1 : Nat) (by omega) (by have := esc_rng s (i + 1); omega) w7 HI7.out (by rw [Lib.byteCells_length, u8s_len]; exact HXL.out) HB7.out).mono ?_
        rintro e w8 ⟨⟨k3, rfl⟩, hI, hb1⟩
        have HR8 := Lib.hid (show RelN w0 w g s C st u k f w5.heap.size E L (esc s (i + 1)).2 w8 from by
          obtain ⟨l', e1, hn'⟩ := HNM.out
          refine ⟨XS ++ encodeRuneZ (esc s (i + 1)).1, l', e1, hn', HVE.out, HEE.out, HSE.out, Go2.keepB HG7.out HGB.out HWB.out hb1, ?_, Nat.le_trans HB7.out hb1.size⟩
          rw [← cells_rune]; exact hI)
        clear hI hb1
        dsimp only
        go_wp2_with fail
        go_loopg [71] (s.size - (esc s (i + 1)).2) (fun n bv wx => Hid (∃ p, n = s.size - p ∧ RelN w0 w g s C st u k f w5.heap.size E L p wx))
        case atStart => exact Lib.hid ⟨_, rfl, HR8.out⟩
        case round =>
          have HR := hrel
          clear hrel
          obtain ⟨p, hn, xs, l, hxl, hnm, hvd, hp, hstp2, hg, hi, hbs⟩ := HR.out
          have HG := Lib.hid hg; have HN := Lib.hid hn; have HI := Lib.hid hi; have HBS := Lib.hid hbs
          have hll : xs.length ≤ 8388608 := by have h1 := HLL.out; rw [← hxl, List.length_append] at h1; omega
          have HXL2 := Lib.hid hll
          obtain ⟨c, hc⟩ : ∃ c, cpOf s p = c := ⟨_, rfl⟩
          have hcr := cp_rng s p
          have hive := ive_escN s p hp
          obtain ⟨l0, c10, c32, c33, c35, c36, c37, fz⟩ := id HG.out.1.at_
          rw [hc] at c35 hcr
          have hwl := wid_le s p hp
          have HST2 := Lib.hid hstp2
          clear hstp2
          cases hx : ncB c with
          | true =>
            have hps : p < s.size := by
              by_cases hq : p < s.size
              · exact hq
              · obtain rfl : p = s.size := by omega
                rw [← hc, nc_end] at hx; cases hx
            have hw1 := wid_pos s p hps
            have HNX := Lib.hid (show ∃ l', (xs ++ encodeRuneZ c) ++ l' = L ∧ Nm s E (p + wid s p) l' from by
              obtain ⟨l', e1, hn'⟩ := nm_rune hnm hvd hps (by rw [hc]; exact hx)
              rw [hc] at e1
              exact ⟨l', by rw [← hxl, e1, List.append_assoc], hn'⟩)
            have HVX := Lib.hid (Vd.cp hvd hp)
            have HXT := Lib.hid hx
            have HW1 := Lib.hid (show s.size - (p + wid s p) < s.size - p by omega)
            have HW2 := Lib.hid hwl
            have HW3 := Lib.hid (show st ≤ p + wid s p by have := HST2.out; omega)
            clear hx hc hxl hnm hvd hg hi hbs hn HR hll hive hwl hw1
            go_wp2_with fail
            refine (nc76 _ _).mono ?_
            rintro e w9 ⟨rfl, rfl⟩
            rw [HXT.out]
            dsimp only
            go_wp2_with fail
            refine (wr85 w5.heap.size w5.heap.size _ c (by omega) (by omega) _ HI.out (by rw [Lib.byteCells_length, u8s_len]; exact HXL2.out) HBS.out).mono ?_
            rintro e w9 ⟨⟨k4, rfl⟩, hI, hb1⟩
            have HI9 := Lib.hid (show Lib.IsBuilder 115 5 w5.heap.size w5.heap.size (Lib.byteCells (u8s (xs ++ encodeRuneZ c))) w9 by rw [← cells_rune]; exact hI)
            have HG9 := Lib.hid (Go2.keepB HG.out HGB.out HWB.out hb1)
            have HB9 := Lib.hid (Nat.le_trans HBS.out hb1.size)
            clear hI hb1 l0 c10 c32 c33 c35 c36 c37 fz
            dsimp only
            go_wp2_with fail
            refine (step_pl HG9.out.1 hp hs HST2.out).mono ?_
            rintro e w10 ⟨rfl, hg⟩
            have HG10 := Lib.hid (HG9.out.trans hg)
            have HI10 := Lib.hid (isb_keepG HI9.out g HGB.out hg.2)
            have HB10 := Lib.hid (Nat.le_trans HB9.out hg.2.size)
            clear hg
            dsimp only
            go_wp2_with fail
            go_roundg (s.size - (p + wid s p))
            case measure => have := HN.out; have := HW1.out; omega
            case rel => exact Lib.hid ⟨p + wid s p, rfl, by obtain ⟨l', e1, hn'⟩ := HNX.out; exact ⟨_, l', e1, hn', HVX.out, HW2.out, HW3.out, HG10.out, HI10.out, HB10.out⟩⟩
          | false =>
            have HXF := Lib.hid hx
            have hnc : ¬ (p < s.size ∧ ncB (byt s p : Nat) = true) := fun hh => by rw [← hc, nc_cp s p hh.1, hh.2] at hx; cases hx
            cases hv : escN s p with
            | true =>
              rw [hv] at hive
              have hh := escN_nc hv
              have HIV := Lib.hid hive
              have HNX := Lib.hid (show ∃ l', (xs ++ encodeRuneZ (esc s (p + 1)).1) ++ l' = L ∧ Nm s E (esc s (p + 1)).2 l' from by
                obtain ⟨l', e1, hn'⟩ := nm_escN hnm hv
                exact ⟨l', by rw [← hxl, e1, List.append_assoc], hn'⟩)
              have hge := esc_ge s (p + 1) (by omega)
              have HVX := Lib.hid (Vd.esc (hvd.asc hh.1 (by omega)) (by omega))
              have HH := Lib.hid hh
              have HGE := Lib.hid hge
              have HW3 := Lib.hid (show st ≤ (esc s (p + 1)).2 by have := HST2.out; omega)
              have HWP := Lib.hid hwl
              have HPS := Lib.hid hp
              clear hx hc hxl hnm hvd hg hi hbs hn HR hll hive hwl hv hnc hh hge
              go_wp2_with fail
              refine (nc76 _ _).mono ?_
              rintro e w9 ⟨rfl, rfl⟩
              rw [HXF.out]
              dsimp only
              go_wp2_with fail
              refine (ive_any _ g s _ (p + wid s p) (cpOf s p) _ _ HG.out.1.at_ HG.out.1.tabs HWP.out hs).mono ?_
              rintro e w9 ⟨rfl, hb5⟩
              rw [HIV.out]
              have HG9 := Lib.hid (HG.out.keep hb5)
              have HI9 := Lib.hid (isb_keep HI.out hb5)
              have HB9 := Lib.hid (Nat.le_trans HBS.out hb5.size)
              clear hb5 l0 c10 c32 c33 c35 c36 c37 fz
              dsimp only
              go_wp2_with fail
              refine (ce86 HG9.out.1 HH.out.1 HH.out.2.1 hs HST2.out).mono ?_
              rintro e w10 ⟨rfl, hg⟩
              have HG10 := Lib.hid (HG9.out.trans hg)
              have HI10 := Lib.hid (isb_keepG HI9.out g HGB.out hg.2)
              have HB10 := Lib.hid (Nat.le_trans HB9.out hg.2.size)
              clear hg
              dsimp only
              go_wp2_with fail
              refine (wr85 w5.heap.size w5.heap.size _ ((esc s (p + 1)).1 : Nat) (by omega) (by have := esc_rng s (p + 1); omega) w10 HI10.out (by rw [Lib.byteCells_length, u8s_len]; exact HXL2.out) HB10.out).mono ?_
              rintro e w11 ⟨⟨k4, rfl⟩, hI, hb1⟩
              have HI11 := Lib.hid (show Lib.IsBuilder 115 5 w5.heap.size w5.heap.size (Lib.byteCells (u8s (xs ++ encodeRuneZ ((esc s (p + 1)).1 : Nat)))) w11 by rw [← cells_rune]; exact hI)
              have HG11 := Lib.hid (Go2.keepB HG10.out HGB.out HWB.out hb1)
              have HB11 := Lib.hid (Nat.le_trans HB10.out hb1.size)
              clear hI hb1
              dsimp only
              go_wp2_with fail
              go_roundg (s.size - (esc s (p + 1)).2)
              case measure => have := HN.out; have := HGE.out; have := HH.out.1; omega
              case rel => exact Lib.hid ⟨(esc s (p + 1)).2, rfl, by obtain ⟨l', e1, hn'⟩ := HNX.out; exact ⟨_, l', e1, hn', HVX.out, HGE.out.2, HW3.out, HG11.out, HI11.out, HB11.out⟩⟩
            | false =>
              rw [hv] at hive
              have HIV := Lib.hid hive
              have HF := Lib.hid (show xs = L ∧ E = p from by
                obtain ⟨e1, e2⟩ := nm_stop hnm hnc hv
                exact ⟨by rw [← hxl, e1]; simp, e2⟩)
              have HWP := Lib.hid hwl
              clear hx hc hxl hnm hvd hg hi hbs hn HR hll hive hwl hv hnc
              go_wp2_with fail
              refine (nc76 _ _).mono ?_
              rintro e w9 ⟨rfl, rfl⟩
              rw [HXF.out]
              dsimp only
              go_wp2_with fail
              refine (ive_any _ g s _ (p + wid s p) (cpOf s p) _ _ HG.out.1.at_ HG.out.1.tabs HWP.out hs).mono ?_
              rintro e w9 ⟨rfl, hb5⟩
              rw [HIV.out]
              have HG9 := Lib.hid (HG.out.keep hb5)
              have HI9 := Lib.hid (isb_keep HI.out hb5)
              have HB9 := Lib.hid (Nat.le_trans HBS.out hb5.size)
              clear hb5 l0 c10 c32 c33 c35 c36 c37 fz
              dsimp only
              go_wp2_with fail
              refine (Tryd.Builder_String_any w5.heap.size w5.heap.size _ _ HI9.out HB9.out).mono ?_
              rintro e w10 ⟨rfl, be⟩
              have HG10 := Lib.hid (Go2.keepB HG9.out HGB.out HWB.out be)
              clear be
              dsimp only
              go_wp2_with fail
              go_ret
              exact ⟨by rw [← HF.out.1]; rfl, by rw [HF.out.2]; exact HG10.out⟩
set_option maxRecDepth 100000 in
set_option maxHeartbeats 8000000 in
theorem cn66y {w0 w : World} {g : Nat} {s : ByteArray} {C : Nat → Option Value} {st : Nat} {u k f : Int} (p : Nat) (h : Pl w0 w g s C p st u k f) (hp : p ≤ s.size) (hs : s.size ≤ 1048576) (hst : st = p) (hc : ncB (cpOf s p) = false) (hI : escN s p = true) (E : Nat) (L : List Int) (hN : Nm s E p L) (hV : Vd s p) :
    Calls Tryd.prog 66 #[.pointer (some ⟨g, 0, none⟩)] w fun e w' => e = .returned (.string (strOfNums L)) ∧ Go2 w0 w w' g s C E st u k f := by
  have hesc := escN_nc hI
  obtain ⟨XS, hXS⟩ : ∃ X : List Int, X = [] := ⟨_, rfl⟩
  have el1 : L = XS ++ L := by rw [hXS]; rfl
  have hN1 := hN
  have hVF := hV
  obtain ⟨R, hR⟩ : ∃ R, s.extract st p = R := ⟨_, rfl⟩
  have HXS := Lib.hid (show strOfNums XS = R by rw [← hR, hst, hXS]; exact str_bytL s p 0 (by omega))
  have hRs : R.size ≤ 1048576 := by rw [← hR]; simp; omega
  have hgeE := esc_ge s (p + 1) (by omega)
  have HEL := Lib.hid hesc.1; have HE92 := Lib.hid hesc.2.1
  have HST := Lib.hid (show st ≤ p by omega)
  have HLL := Lib.hid (show L.length ≤ 8388608 by have := (nm_le hN hp).2.2; omega)
  have HXL := Lib.hid (show XS.length ≤ 8388608 by have h1 := HLL.out; rw [el1, List.length_append] at h1; omega)
  have HNM := Lib.hid (show ∃ l', (XS ++ encodeRuneZ (esc s (p + 1)).1) ++ l' = L ∧ Nm s E (esc s (p + 1)).2 l' from by
    obtain ⟨l', e1, hn'⟩ := nm_escN hN1 hI
    exact ⟨l', by rw [el1, e1, List.append_assoc], hn'⟩)
  have HVE := Lib.hid (Vd.esc (hVF.asc hesc.1 (by omega)) (by omega))
  have HEE := Lib.hid hgeE.2
  have HSE := Lib.hid (show st ≤ (esc s (p + 1)).2 by omega)
  have HIV := Lib.hid (show iveB s (p + wid s p) (cpOf s p) = true by rw [ive_escN s p (by omega)]; exact hI)
  have hsum : (st : Int) + ((p : Int) - (st : Int)) = (p : Int) := by omega
  have HN := Lib.hid (en58 st ((p : Int) - st) (by omega) (by omega) (by omega))
  rw [hsum] at HN
  have HG := Lib.hid h.go
  obtain ⟨l, c10, c32, c33, c35, c36, c37, fz⟩ := id h.at_
  have HC := Lib.hid hc
  have hstE : st ≤ p := by omega
  clear hst
  clear h hc hI hsum hN hN1 el1 hV hVF hesc hgeE hXS
  go_enter Tryd.func66, Tryd.ntmps66
  go_wp2_with fail
  refine (nc76 _ _).mono ?_
  rintro e w2 ⟨rfl, rfl⟩
  rw [HC.out]
  dsimp only
  go_wp2_with fail
  go_region_with ((go_at_call 58; refine (HN.out _).mono ?_; rintro e w4 ⟨rfl, be⟩; have KB := Lib.hid ((Below.refl w.heap.size w).drew.trans be); have HG4 := Lib.hid (HG.out.keep KB.out); obtain ⟨l2, f10, f32, f33, f35, f36, f37, fz2⟩ := id HG4.out.1.at_; clear be))
  all_goals
    go_wp2_with fail
    refine (ive_any _ g s _ (p + wid s p) (cpOf s p) _ _ HG4.out.1.at_ HG4.out.1.tabs (wid_le s p hp) hs).mono ?_
    rintro e w5 ⟨rfl, hb5⟩
    rw [HIV.out]
    have HG5 := Lib.hid (HG4.out.keep hb5)
    have HGB := Lib.hid (HG5.out.1.at_.lt)
    have HWB := Lib.hid (HG5.out.2.size)
    clear hb5
    dsimp only
    go_wp2_with fail
    refine (ws84 w5.heap.size w5.heap.size [] R _ (Lib.fresh_isBuilder 115 5 w5) (by simp) (by omega) (by simp)).mono ?_
    rintro e w6 ⟨⟨k1, rfl⟩, hI, hb1⟩
    have HI6 := Lib.hid (show Lib.IsBuilder 115 5 w5.heap.size w5.heap.size (Lib.byteCells (u8s XS)) w6 by rw [← cells_str, HXS.out]; simpa using hI)
    have HG6 := Lib.hid (Go2.keepB HG5.out HGB.out HWB.out (((Below.refl w5.heap.size w5).alloc (Nat.le_refl _) _).trans hb1))
    have HB6 := Lib.hid (show w5.heap.size ≤ w6.heap.size by have := hb1.size; simp at this; omega)
    clear hI hb1
    dsimp only
    go_wp2_with fail
    refine (ce86 HG6.out.1 HEL.out HE92.out hs HST.out).mono ?_
    rintro e w7 ⟨rfl, hg⟩
    have HG7 := Lib.hid (HG6.out.trans hg)
    have HI7 := Lib.hid (isb_keepG HI6.out g HGB.out hg.2)
    have HB7 := Lib.hid (Nat.le_trans HB6.out hg.2.size)
    clear hg
    dsimp only
    go_wp2_with fail
    refine (wr85 w5.heap.size w5.heap.size _ ((esc s (p + 1)).1 : Nat) (by omega) (by have := esc_rng s (p + 1); omega) w7 HI7.out (by rw [Lib.byteCells_length, u8s_len]; exact HXL.out) HB7.out).mono ?_
    rintro e w8 ⟨⟨k3, rfl⟩, hI, hb1⟩
    have HR8 := Lib.hid (show RelN w0 w g s C st u k f w5.heap.size E L (esc s (p + 1)).2 w8 from by
      obtain ⟨l', e1, hn'⟩ := HNM.out
      refine ⟨XS ++ encodeRuneZ (esc s (p + 1)).1, l', e1, hn', HVE.out, HEE.out, HSE.out, Go2.keepB HG7.out HGB.out HWB.out hb1, ?_, Nat.le_trans HB7.out hb1.size⟩
      rw [← cells_rune]; exact hI)
    clear hI hb1
    dsimp only
    go_wp2_with fail
    go_loopg [71] (s.size - (esc s (p + 1)).2) (fun n bv wx => Hid (∃ p, n = s.size - p ∧ RelN w0 w g s C st u k f w5.heap.size E L p wx))
    case atStart => exact Lib.hid ⟨_, rfl, HR8.out⟩
    case round =>
      have HR := hrel
      clear hrel
      obtain ⟨p, hn, xs, l, hxl, hnm, hvd, hp, hstp2, hg, hi, hbs⟩ := HR.out
      have HG := Lib.hid hg; have HN := Lib.hid hn; have HI := Lib.hid hi; have HBS := Lib.hid hbs
      have hll : xs.length ≤ 8388608 := by have h1 := HLL.out; rw [← hxl, List.length_append] at h1; omega
      have HXL2 := Lib.hid hll
      obtain ⟨c, hc⟩ : ∃ c, cpOf s p = c := ⟨_, rfl⟩
      have hcr := cp_rng s p
      have hive := ive_escN s p hp
      obtain ⟨l0, c10, c32, c33, c35, c36, c37, fz⟩ := id HG.out.1.at_
      rw [hc] at c35 hcr
      have hwl := wid_le s p hp
      have HST2 := Lib.hid hstp2
      clear hstp2
      cases hx : ncB c with
      | true =>
        have hps : p < s.size := by
          by_cases hq : p < s.size
          · exact hq
          · obtain rfl : p = s.size := by omega
            rw [← hc, nc_end] at hx; cases hx
        have hw1 := wid_pos s p hps
        have HNX := Lib.hid (show ∃ l', (xs ++ encodeRuneZ c) ++ l' = L ∧ Nm s E (p + wid s p) l' from by
          obtain ⟨l', e1, hn'⟩ := nm_rune hnm hvd hps (by rw [hc]; exact hx)
          rw [hc] at e1
          exact ⟨l', by rw [← hxl, e1, List.append_assoc], hn'⟩)
        have HVX := Lib.hid (Vd.cp hvd hp)
        have HXT := Lib.hid hx
        have HW1 := Lib.hid (show s.size - (p + wid s p) < s.size - p by omega)
        have HW2 := Lib.hid hwl
        have HW3 := Lib.hid (show st ≤ p + wid s p by have := HST2.out; omega)
        clear hx hc hxl hnm hvd hg hi hbs hn HR hll hive hwl hw1
        go_wp2_with fail
        refine (nc76 _ _).mono ?_
        rintro e w9 ⟨rfl, rfl⟩
        rw [HXT.out]
        dsimp only
        go_wp2_with fail
        refine (wr85 w5.heap.size w5.heap.size _ c (by omega) (by omega) _ HI.out (by rw [Lib.byteCells_length, u8s_len]; exact HXL2.out) HBS.out).mono ?_
        rintro e w9 ⟨⟨k4, rfl⟩, hI, hb1⟩
        have HI9 := Lib.hid (show Lib.IsBuilder 115 5 w5.heap.size w5.heap.size (Lib.byteCells (u8s (xs ++ encodeRuneZ c))) w9 by rw [← cells_rune]; exact hI)
        have HG9 := Lib.hid (Go2.keepB HG.out HGB.out HWB.out hb1)
        have HB9 := Lib.hid (Nat.le_trans HBS.out hb1.size)
        clear hI hb1 l0 c10 c32 c33 c35 c36 c37 fz
        dsimp only
        go_wp2_with fail
        refine (step_pl HG9.out.1 hp hs HST2.out).mono ?_
        rintro e w10 ⟨rfl, hg⟩
        have HG10 := Lib.hid (HG9.out.trans hg)
        have HI10 := Lib.hid (isb_keepG HI9.out g HGB.out hg.2)
        have HB10 := Lib.hid (Nat.le_trans HB9.out hg.2.size)
        clear hg
        dsimp only
        go_wp2_with fail
        go_roundg (s.size - (p + wid s p))
        case measure => have := HN.out; have := HW1.out; omega
        case rel => exact Lib.hid ⟨p + wid s p, rfl, by obtain ⟨l', e1, hn'⟩ := HNX.out; exact ⟨_, l', e1, hn', HVX.out, HW2.out, HW3.out, HG10.out, HI10.out, HB10.out⟩⟩
      | false =>
        have HXF := Lib.hid hx
        have hnc : ¬ (p < s.size ∧ ncB (byt s p : Nat) = true) := fun hh => by rw [← hc, nc_cp s p hh.1, hh.2] at hx; cases hx
        cases hv : escN s p with
        | true =>
          rw [hv] at hive
          have hh := escN_nc hv
          have HIV := Lib.hid hive
          have HNX := Lib.hid (show ∃ l', (xs ++ encodeRuneZ (esc s (p + 1)).1) ++ l' = L ∧ Nm s E (esc s (p + 1)).2 l' from by
            obtain ⟨l', e1, hn'⟩ := nm_escN hnm hv
            exact ⟨l', by rw [← hxl, e1, List.append_assoc], hn'⟩)
          have hge := esc_ge s (p + 1) (by omega)
          have HVX := Lib.hid (Vd.esc (hvd.asc hh.1 (by omega)) (by omega))
          have HH := Lib.hid hh
          have HGE := Lib.hid hge
          have HW3 := Lib.hid (show st ≤ (esc s (p + 1)).2 by have := HST2.out; omega)
          have HWP := Lib.hid hwl
          have HPS := Lib.hid hp
          clear hx hc hxl hnm hvd hg hi hbs hn HR hll hive hwl hv hnc hh hge
          go_wp2_with fail
          refine (nc76 _ _).mono ?_
          rintro e w9 ⟨rfl, rfl⟩
          rw [HXF.out]
          dsimp only
          go_wp2_with fail
          refine (ive_any _ g s _ (p + wid s p) (cpOf s p) _ _ HG.out.1.at_ HG.out.1.tabs HWP.out hs).mono ?_
          rintro e w9 ⟨rfl, hb5⟩
          rw [HIV.out]
          have HG9 := Lib.hid (HG.out.keep hb5)
          have HI9 := Lib.hid (isb_keep HI.out hb5)
          have HB9 := Lib.hid (Nat.le_trans HBS.out hb5.size)
          clear hb5 l0 c10 c32 c33 c35 c36 c37 fz
          dsimp only
          go_wp2_with fail
          refine (ce86 HG9.out.1 HH.out.1 HH.out.2.1 hs HST2.out).mono ?_
          rintro e w10 ⟨rfl, hg⟩
          have HG10 := Lib.hid (HG9.out.trans hg)
          have HI10 := Lib.hid (isb_keepG HI9.out g HGB.out hg.2)
          have HB10 := Lib.hid (Nat.le_trans HB9.out hg.2.size)
          clear hg
          dsimp only
          go_wp2_with fail
          refine (wr85 w5.heap.size w5.heap.size _ ((esc s (p + 1)).1 : Nat) (by omega) (by have := esc_rng s (p + 1); omega) w10 HI10.out (by rw [Lib.byteCells_length, u8s_len]; exact HXL2.out) HB10.out).mono ?_
          rintro e w11 ⟨⟨k4, rfl⟩, hI, hb1⟩
          have HI11 := Lib.hid (show Lib.IsBuilder 115 5 w5.heap.size w5.heap.size (Lib.byteCells (u8s (xs ++ encodeRuneZ ((esc s (p + 1)).1 : Nat)))) w11 by rw [← cells_rune]; exact hI)
          have HG11 := Lib.hid (Go2.keepB HG10.out HGB.out HWB.out hb1)
          have HB11 := Lib.hid (Nat.le_trans HB10.out hb1.size)
          clear hI hb1
          dsimp only
          go_wp2_with fail
          go_roundg (s.size - (esc s (p + 1)).2)
          case measure => have := HN.out; have := HGE.out; have := HH.out.1; omega
          case rel => exact Lib.hid ⟨(esc s (p + 1)).2, rfl, by obtain ⟨l', e1, hn'⟩ := HNX.out; exact ⟨_, l', e1, hn', HVX.out, HGE.out.2, HW3.out, HG11.out, HI11.out, HB11.out⟩⟩
        | false =>
          rw [hv] at hive
          have HIV := Lib.hid hive
          have HF := Lib.hid (show xs = L ∧ E = p from by
            obtain ⟨e1, e2⟩ := nm_stop hnm hnc hv
            exact ⟨by rw [← hxl, e1]; simp, e2⟩)
          have HWP := Lib.hid hwl
          clear hx hc hxl hnm hvd hg hi hbs hn HR hll hive hwl hv hnc
          go_wp2_with fail
          refine (nc76 _ _).mono ?_
          rintro e w9 ⟨rfl, rfl⟩
          rw [HXF.out]
          dsimp only
          go_wp2_with fail
          refine (ive_any _ g s _ (p + wid s p) (cpOf s p) _ _ HG.out.1.at_ HG.out.1.tabs HWP.out hs).mono ?_
          rintro e w9 ⟨rfl, hb5⟩
          rw [HIV.out]
          have HG9 := Lib.hid (HG.out.keep hb5)
          have HI9 := Lib.hid (isb_keep HI.out hb5)
          have HB9 := Lib.hid (Nat.le_trans HBS.out hb5.size)
          clear hb5 l0 c10 c32 c33 c35 c36 c37 fz
          dsimp only
          go_wp2_with fail
          refine (Tryd.Builder_String_any w5.heap.size w5.heap.size _ _ HI9.out HB9.out).mono ?_
          rintro e w10 ⟨rfl, be⟩
          have HG10 := Lib.hid (Go2.keepB HG9.out HGB.out HWB.out be)
          clear be
          dsimp only
          go_wp2_with fail
          go_ret
          exact ⟨by rw [← HF.out.1]; rfl, by rw [HF.out.2]; exact HG10.out⟩
end Go.Proofs.YtocciemgdikmjaaDoor
