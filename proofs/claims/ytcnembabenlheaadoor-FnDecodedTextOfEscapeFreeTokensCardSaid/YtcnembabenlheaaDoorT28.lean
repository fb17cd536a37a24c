/-
  The walk of FnDecodedTextOfEscapeFreeTokens.
-/
import Derived.Test.YtcnembabenlheaaDoorT22
import Derived.Test.YtcnembabenlheaaDoorT29
namespace Go.Proofs.YtcnembabenlheaaDoor
open Go.ChangeShapes Go.WideShapes Go.ChangeAt Go.RowKit
open Go.Lib (encodeRuneZ encodeRuneZ_length)
set_option linter.unusedVariables false
theorem zc29e (w : World) (v : Value) (rs seg : List Int) (lo n : Nat) (lo' hi' : Int) (e1 : lo' = lo) (e2 : hi' = (lo + n : Nat)) (hv : Ints w v rs) (hseg : seg.length = n) (hs : ∀ k, k < n → seg.getD k 0 = rs.getD (lo + k) 0) (hlo : lo + n ≤ rs.length) (hn : rs.length ≤ 65536) :
    Calls Tryd.prog 29 #[v, .int .i64 lo', .int .i64 hi'] w fun e w' => ∃ v', e = .returned v' ∧ OwnB w' w.heap.size v' (encs (seg.map clean)) ∧ Below w.heap.size w w' := by
  subst e1 e2; exact zc29 w v rs seg lo n hv hseg hs hlo hn
theorem getD_r (a b : List Int) (i : Nat) : (a ++ b).getD (a.length + i) 0 = b.getD i 0 := by simp [List.getD, List.getElem?_append_right]
def RelT (w : World) (rs : List Int) (sl : Value) (i : Nat) (w' : World) : Prop := ∃ pre : List Int, OwnB w' w.heap.size sl pre ∧ Below w.heap.size w w' ∧ pre = encs (rs.take i)
theorem take_more (rs : List Int) (k : Nat) (h : k < rs.length) : encs (rs.take (k + 1)) = encs (rs.take k) ++ encodeRuneZ (rs.getD k 0) := by
  rw [List.take_succ_eq_append_getElem h, encs_app]
  simp [encs, List.getD, h]
set_option maxRecDepth 100000 in
set_option maxHeartbeats 8000000 in
theorem law7 (a0 : ByteArray) (a1 : Option Addr) (n cap1 : Nat) (a2 : ByteArray) (a3 : Int) (h30 : 0 ≤ a3) (h31 : a3 ≤ 255) (w : World) (A M Z : List Int) (hA : ∀ r ∈ A, isW r = true) (hZ : ∀ r ∈ Z, isW r = true) (m0 : Int) (M' M'' : List Int) (m1 : Int) (hM1 : M = m0 :: M') (hm0 : isW m0 = false) (hM2 : M = M'' ++ [m1]) (hm1 : isW m1 = false) (rs : List Int) (hrs : rs = A ++ M ++ Z) (hv : Ints w (.slice a1 n cap1) rs) (hn : rs.length = n) (w0 : a0.size ≤ maxLen) (w2 : a2.size ≤ maxLen) (hT : Lib.Utf8Tabs 0 1 w) :
    Calls Tryd.prog 7 #[.string a0, .slice a1 n cap1, .string a2, .int .u8 a3] w fun e w' => e = .returned (.bool true) ∧ Below w.heap.size w w' := by
  obtain ⟨i0, hin, hz0, hz1, hz2⟩ := info_parts infoB
  have HV := Lib.hid hv; have HN := Lib.hid hn; have HT := Lib.hid hT; have HRS := Lib.hid hrs; have HA := Lib.hid hA; have HZ := Lib.hid hZ; have HM1 := Lib.hid (And.intro hM1 hm0); have HM2 := Lib.hid (And.intro hM2 hm1)
  obtain ⟨a, ha⟩ : ∃ a, A.length = a := ⟨_, rfl⟩
  obtain ⟨mm, hmm⟩ : ∃ a, M.length = a := ⟨_, rfl⟩
  obtain ⟨zz, hzz⟩ : ∃ a, Z.length = a := ⟨_, rfl⟩
  have hnn : n = a + mm + zz := by rw [← hn, hrs]; simp; omega
  have hmp : 0 < mm := by rw [← hmm, hM1]; simp
  have HNN := Lib.hid hnn; have HLA := Lib.hid ha; have HLM := Lib.hid hmm; have HLZ := Lib.hid hzz
  have HGA := Lib.hid (show ∀ i, i < a → isW (rs.getD i 0) = true by
    intro i hi; rw [hrs, List.append_assoc, get_l _ _ _ (by omega)]; exact hA _ (getD_mem _ _ (by omega)))
  have HGM := Lib.hid (show isW (rs.getD a 0) = false by
    rw [hrs, hM1, ← ha]; simp [List.getD]; exact hm0)
  have HGZ := Lib.hid (show ∀ i, i < zz → isW (rs.getD (a + mm + i) 0) = true by
    intro i hi
    have e : rs.getD (a + mm + i) 0 = Z.getD i 0 := by
      rw [hrs, ← ha, ← hmm, ← List.length_append, getD_r]
    rw [e]; exact hZ _ (getD_mem _ _ (by omega)))
  have HGL := Lib.hid (show isW (rs.getD (a + mm - 1) 0) = false by
    have e : rs.getD (a + mm - 1) 0 = m1 := by
      have e2 : mm = M''.length + 1 := by rw [← hmm, hM2]; simp
      rw [hrs, hM2, e2, ← ha, show A.length + (M''.length + 1) - 1 = A.length + M''.length by omega]
      simp [List.getD]
    rw [e]; exact hm1)
  have HSEG := Lib.hid (show ∀ k, k < mm → M.getD k 0 = rs.getD (a + k) 0 by
    intro q hq
    have e : rs = A ++ (M ++ Z) := by rw [hrs, List.append_assoc]
    rw [e, ← ha, getD_r, get_l _ _ _ (by omega)])
  have HMZ := Lib.hid (show (M = [] ∧ Z = []) ∨ ((∃ m M', M = m :: M' ∧ isW m = false) ∧ ∃ M' m, M = M' ++ [m] ∧ isW m = false) from Or.inr ⟨⟨_, _, hM1, hm0⟩, _, _, hM2, hm1⟩)
  clear hv hn hT hrs hA hZ hM1 hM2 hm0 hm1 ha hmm hzz hnn w0 w2
  go_enter Tryd.func7, Tryd.ntmps7
  go_wp2_with fail
  refine (zb26 a0 a2 a3 w _ rs HV.out).mono ?_
  rintro e w1 ⟨⟨b, rfl⟩, rfl⟩
  cases b
  · dsimp only
    go_wp2_with fail
    go_ret
    exact ⟨rfl, Below.refl _ _⟩
  dsimp only
  by_cases sz1 : a0.size ≤ 262144
  case neg =>
    go_wp2_with fail
    go_ret
    exact ⟨rfl, Below.refl _ _⟩
  by_cases sz2 : a2.size ≤ 262144
  case neg =>
    go_wp2_with fail
    go_ret
    exact ⟨rfl, Below.refl _ _⟩
  by_cases sz3 : n ≤ 65536
  case neg =>
    go_wp2_with fail
    go_ret
    exact ⟨rfl, Below.refl _ _⟩
  go_wp2_with fail
  go_loopw [9] (fun iv w' => ∃ i : Nat, iv = .int .i64 i ∧ w = w' ∧ i ≤ n ∧ Hid (∀ k, k < i → rs.getD k 0 ≠ 92)) (fun iv w' => n - (intOf iv).toNat)
  case atStart => exact ⟨0, rfl, rfl, by omega, Lib.hid (fun k hk => absurd hk (by omega))⟩
  case round =>
    obtain ⟨i, rfl, rfl, hi, H92⟩ := hrel
    by_cases hlt : i < n
    · obtain ⟨p2, c2, hsl, _, hcell⟩ := HV.out
      obtain ⟨x, rfl, hx⟩ := hcell i (by have := HN.out; omega)
      obtain rfl : a1 = some x := by injection hsl
      obtain ⟨c, hc⟩ : ∃ c, rs.getD i 0 = c := ⟨_, rfl⟩
      rw [hc] at hx
      have HC := Lib.hid hc
      clear hsl hcell hc
      by_cases h92 : c = 92
      · subst h92
        go_wp2_with fail
        go_ret
        exact ⟨rfl, Below.refl _ _⟩
      · have e92 : (c == 92) = false := by rw [beq_eq_false_iff_ne]; exact h92
        have HNE := Lib.hid h92
        clear h92
        go_wp2_with fail
        go_roundw
        case rel =>
          refine ⟨i + 1, by simp, by trivial, by omega, Lib.hid (fun k hk => ?_)⟩
          by_cases hki : k < i
          · exact H92.out k hki
          · obtain rfl : k = i := by omega
            rw [HC.out]; exact HNE.out
        case measure => simp only [intOf]; omega
    · obtain rfl : i = n := by omega
      clear hlt hi
      go_wp2_with fail
      go_loopw [10, 11] (fun sl iv w' => ∃ j : Nat, iv = .int .i64 j ∧ j ≤ i ∧ Hid (RelT w rs sl j w')) (fun sl iv w' => i - (intOf iv).toNat)
      case atStart => exact ⟨0, rfl, by omega, Lib.hid ⟨[], World.ownsRow_nil _ _ _ _, Below.refl _ _, by simp [encs]⟩⟩
      case round =>
        obtain ⟨j, rfl, hj, HR⟩ := hrel
        obtain ⟨pre, hO, hB, hp⟩ := HR.out
        have HO := Lib.hid hO; have KB := Lib.hid hB; have HP := Lib.hid hp
        clear hO hB hp HR
        by_cases hjn : j < i
        · obtain ⟨p2, c2, hsl, _, hcell⟩ := HV.out.keep KB.out
          obtain ⟨x, rfl, hx⟩ := hcell j (by have := HN.out; omega)
          obtain rfl : a1 = some x := by injection hsl
          obtain ⟨c, hc⟩ : ∃ c, rs.getD j 0 = c := ⟨_, rfl⟩
          rw [hc] at hx
          have HC := Lib.hid hc
          obtain ⟨J, hJ⟩ : ∃ J, j + 1 = J := ⟨_, rfl⟩
          have hJ' : (j : Int) + 1 = (J : Int) := by omega
          have hpl : pre.length ≤ 4194304 := by
            rw [HP.out]
            have := encs_len (rs.take j)
            rw [List.length_take] at this
            have h3 := HN.out
            omega
          have HPL := Lib.hid hpl
          clear hsl hcell hc hpl
          go_wp2_with fail
          refine (pr27 _ w.heap.size _ pre c HO.out KB.out.size HPL.out).mono ?_
          rintro e w2 ⟨v2, rfl, ho, hb⟩
          have O2 := Lib.hid ho; have K2 := Lib.hid (KB.out.trans hb)
          clear ho hb
          dsimp only
          go_wp2_with fail
          go_roundw
          case rel => exact ⟨J, by trivial, by omega, Lib.hid ⟨_, O2.out, K2.out, by rw [← hJ, take_more rs j (by have := HN.out; omega), HC.out, HP.out]⟩⟩
          case measure => simp only [intOf]; omega
        · obtain rfl : j = i := by omega
          have HPF := Lib.hid (show pre = encs rs by rw [HP.out, List.take_of_length_le (by have := HN.out; omega)])
          have HV2 := Lib.hid (HV.out.keep KB.out)
          clear hjn hj HP
          go_wp2_with fail
          go_loopw [12] (fun iv w' => ∃ k : Nat, iv = .int .i64 k ∧ wr = w' ∧ k ≤ a) (fun iv w' => j - (intOf iv).toNat)
          case atStart => exact ⟨0, rfl, rfl, by omega⟩
          case round =>
            obtain ⟨k, rfl, rfl, hk⟩ := hrel
            have hkn : k < j := by have := HNN.out; omega
            obtain ⟨p2, c2, hsl, _, hcell⟩ := HV2.out
            obtain ⟨x, rfl, hx⟩ := hcell k (by have := HN.out; omega)
            obtain rfl : a1 = some x := by injection hsl
            obtain ⟨c, hc⟩ : ∃ c, rs.getD k 0 = c := ⟨_, rfl⟩
            rw [hc] at hx
            have HC := Lib.hid hc
            clear hsl hcell hc
            by_cases hka : k < a
            · have HW := Lib.hid (show isW c = true by rw [← HC.out]; exact HGA.out k hka)
              go_wp2_with fail
              refine (ws28 c _).mono ?_
              rintro e w3 ⟨rfl, rfl⟩
              rw [HW.out]
              dsimp only
              go_wp2_with fail
              go_roundw
              case rel => exact ⟨k + 1, by simp, by trivial, by omega⟩
              case measure => simp only [intOf]; omega
            · obtain rfl : k = a := by omega
              have HW := Lib.hid (show isW c = false by rw [← HC.out]; exact HGM.out)
              clear hka hk
              go_wp2_with fail
              refine (ws28 c _).mono ?_
              rintro e w3 ⟨rfl, rfl⟩
              rw [HW.out]
              dsimp only
              go_wp2_with fail
              clear hx
              obtain ⟨U, hU⟩ : ∃ U, k + mm = U := ⟨_, rfl⟩
              have HU := Lib.hid hU
              have hkU : k < U := by omega
              have hUj : U ≤ j := by have := HNN.out; omega
              clear hU
              go_loopw [13] (fun ev w' => ∃ t : Nat, ev = .int .i64 (U + t : Nat) ∧ wr = w' ∧ t ≤ zz) (fun ev w' => (intOf ev).toNat)
              case atStart => exact ⟨zz, by rw [show U + zz = j by have := HNN.out; have := HU.out; omega], rfl, Nat.le_refl _⟩
              case round =>
                obtain ⟨t, rfl, rfl, ht⟩ := hrel
                cases t with
                | succ t =>
                  obtain ⟨T, hTq⟩ : ∃ T, U + (t + 1) = T := ⟨_, rfl⟩
                  obtain ⟨V, hV⟩ : ∃ V, U + t = V := ⟨_, rfl⟩
                  have hV' : (T : Int) - 1 = (V : Int) := by omega
                  have hVj : V < j := by have := HNN.out; have := HU.out; omega
                  have hkT : k < T := by omega
                  obtain ⟨p2, c2, hsl, _, hcell⟩ := HV2.out
                  obtain ⟨x2, hx2, hx⟩ := hcell V (by have := HN.out; omega)
                  obtain rfl : x2 = x := by injection hsl with q1; rw [hx2] at q1; injection q1 with q1; exact q1.symm
                  obtain ⟨c2, hc⟩ : ∃ c, rs.getD V 0 = c := ⟨_, rfl⟩
                  rw [hc] at hx
                  have HW2 := Lib.hid (show isW c2 = true by rw [← hc, ← hV]; have := HGZ.out t (by omega); rw [HU.out] at this; exact this)
                  rw [hTq]
                  have HVq := Lib.hid hV
                  have hVT : V < T := by omega
                  clear hsl hcell hc hV hTq hx2
                  go_wp2_with fail
                  refine (ws28 c2 _).mono ?_
                  rintro e w4 ⟨rfl, rfl⟩
                  rw [HW2.out]
                  dsimp only
                  go_wp2_with fail
                  go_roundw
                  case rel => exact ⟨t, by rw [HVq.out], by trivial, by omega⟩
                  case measure => simp only [intOf]; omega
                | zero =>
                  obtain ⟨V, hV⟩ : ∃ V, U - 1 = V := ⟨_, rfl⟩
                  have hV' : (U : Int) - 1 = (V : Int) := by omega
                  have hVj : V < j := by omega
                  obtain ⟨p2, c2, hsl, _, hcell⟩ := HV2.out
                  obtain ⟨x2, hx2, hx⟩ := hcell V (by have := HN.out; omega)
                  obtain rfl : x2 = x := by injection hsl with q1; rw [hx2] at q1; injection q1 with q1; exact q1.symm
                  obtain ⟨c2, hc⟩ : ∃ c, rs.getD V 0 = c := ⟨_, rfl⟩
                  rw [hc] at hx
                  have HW2 := Lib.hid (show isW c2 = false by rw [← hc, ← hV, ← HU.out]; exact HGL.out)
                  rw [Nat.add_zero]
                  clear hsl hcell hc hV hx2 ht
                  go_wp2_with fail
                  refine (ws28 c2 _).mono ?_
                  rintro e w4 ⟨rfl, rfl⟩
                  rw [HW2.out]
                  dsimp only
                  clear hx
                  go_wp2_with fail
                  have HR92 := Lib.hid (show ∀ r ∈ rs, r ≠ 92 by
                    intro r hr
                    obtain ⟨q, hq, rfl⟩ := List.mem_iff_getElem.1 hr
                    have := H92.out q (by have := HN.out; omega)
                    simpa [List.getD, hq] using this)
                  have HLEN := Lib.hid (show rs.length ≤ 65536 by have := HN.out; omega)
                  refine (zc29e _ _ rs rs 0 j 0 (j : Int) rfl (by simp) HV2.out HN.out (fun k hk => by rw [Nat.zero_add]) (by have := HN.out; omega) (by have := HN.out; omega)).mono ?_
                  rintro e w5 ⟨v5, rfl, ho, be⟩
                  obtain ⟨AL, hAL⟩ : ∃ s, strOfNums (encs (rs.map clean)) = s := ⟨_, rfl⟩
                  have hcv := conv_bytes ho.bytes
                  rw [hAL] at hcv
                  have hALs : AL.size ≤ 262144 := by rw [← hAL, strOfNums_size]; have h1 := encs_len (rs.map clean); have h2 := HLEN.out; rw [List.length_map] at h1; omega
                  have HAL := Lib.hid hAL
                  have KB5 := Lib.hid (KB.out.trans (be.mono KB.out.size)); have O5 := Lib.hid (HO.out.keep be)
                  have HV5 := Lib.hid (HV2.out.keep be)
                  clear ho be hAL
                  dsimp only
                  obtain ⟨kk, hkk⟩ : ∃ k : Nat, a3 % 8 = k := ⟨(a3 % 8).toNat, by omega⟩
                  have hk8 : kk < 8 := by omega
                  obtain ⟨BD, hBD⟩ : ∃ s, strOfNums (encs rs) = s := ⟨_, rfl⟩
                  have hcb := conv_bytes O5.out.bytes
                  rw [HPF.out, hBD] at hcb
                  have HBD := Lib.hid hBD
                  have hBDs : BD.size ≤ 262144 := by rw [← hBD, strOfNums_size]; have h1 := encs_len rs; have h2 := HN.out; omega
                  clear hBD
                  rcases (show kk = 0 ∨ kk = 1 ∨ kk = 2 ∨ kk = 3 ∨ kk = 4 ∨ kk = 5 ∨ kk = 6 ∨ kk = 7 by omega) with rfl | rfl | rfl | rfl | rfl | rfl | rfl | rfl
                  · go_wp2_with fail
                    refine (tk_id a0 a2 BD rs HBD.out HR92.out HLEN.out sz1 sz2 hBDs AL HAL.out _ (tabs_below HT.out (KB5.out.alloc KB5.out.size _)) _ ?hl0).mono ?_
                    case hl0 => first | (simp; done) | (simp; omega)
                    rintro e w6 ⟨rfl, be6⟩
                    have K6 := Lib.hid ((KB5.out.alloc KB5.out.size _).trans (be6.mono (KB5.out.alloc KB5.out.size _).size))
                    clear be6
                    dsimp only
                    go_wp2_with fail
                    go_ret
                    exact ⟨by simp, K6.out⟩
                  · go_wp2_with fail
                    refine (tk_dim a0 a2 BD rs HBD.out HR92.out HLEN.out sz1 sz2 hBDs AL HAL.out _ (tabs_below HT.out (KB5.out.alloc KB5.out.size _)) _ ?hl1).mono ?_
                    case hl1 => first | (simp; done) | (simp; omega)
                    rintro e w6 ⟨rfl, be6⟩
                    have K6 := Lib.hid ((KB5.out.alloc KB5.out.size _).trans (be6.mono (KB5.out.alloc KB5.out.size _).size))
                    clear be6
                    dsimp only
                    go_wp2_with fail
                    go_ret
                    exact ⟨by simp, K6.out⟩
                  · go_wp2_with fail
                    refine (tk_hash a0 a2 BD rs HBD.out HR92.out HLEN.out sz1 sz2 hBDs AL HAL.out _ (tabs_below HT.out (KB5.out.alloc KB5.out.size _)) _ ?hl2).mono ?_
                    case hl2 => first | (simp; done) | (simp; omega)
                    rintro e w6 ⟨rfl, be6⟩
                    have K6 := Lib.hid ((KB5.out.alloc KB5.out.size _).trans (be6.mono (KB5.out.alloc KB5.out.size _).size))
                    clear be6
                    dsimp only
                    go_wp2_with fail
                    go_ret
                    exact ⟨by simp, K6.out⟩
                  · go_wp2_with fail
                    refine (tk_at a0 a2 BD rs HBD.out HR92.out HLEN.out sz1 sz2 hBDs AL HAL.out _ (tabs_below HT.out (KB5.out.alloc KB5.out.size _)) _ ?hl3).mono ?_
                    case hl3 => first | (simp; done) | (simp; omega)
                    rintro e w6 ⟨rfl, be6⟩
                    have K6 := Lib.hid ((KB5.out.alloc KB5.out.size _).trans (be6.mono (KB5.out.alloc KB5.out.size _).size))
                    clear be6
                    dsimp only
                    go_wp2_with fail
                    go_ret
                    exact ⟨by simp, K6.out⟩
                  · go_wp2_with fail
                    refine (tk_fn a0 a2 BD rs HBD.out HR92.out HLEN.out sz1 sz2 hBDs AL HAL.out _ (tabs_below HT.out (KB5.out.alloc KB5.out.size _)) _ ?hl4).mono ?_
                    case hl4 => first | (simp; done) | (simp; omega)
                    rintro e w6 ⟨rfl, be6⟩
                    have K6 := Lib.hid ((KB5.out.alloc KB5.out.size _).trans (be6.mono (KB5.out.alloc KB5.out.size _).size))
                    clear be6
                    dsimp only
                    go_wp2_with fail
                    go_ret
                    exact ⟨by simp, K6.out⟩
                  · go_wp2_with fail
                    refine (tk_str a0 a2 BD rs HBD.out HR92.out HLEN.out sz1 sz2 hBDs AL HAL.out _ (tabs_below HT.out (KB5.out.alloc KB5.out.size _)) _ ?hl5).mono ?_
                    case hl5 => first | (simp; done) | (simp; omega)
                    rintro e w6 ⟨rfl, be6⟩
                    have K6 := Lib.hid ((KB5.out.alloc KB5.out.size _).trans (be6.mono (KB5.out.alloc KB5.out.size _).size))
                    clear be6
                    dsimp only
                    go_wp2_with fail
                    go_ret
                    exact ⟨by simp, K6.out⟩
                  · go_wp2_with fail
                    refine (zc29e _ _ rs M k mm (k : Int) (U : Int) rfl (by have := HU.out; omega) HV5.out HLM.out HSEG.out (by have := HNN.out; have := HN.out; omega) (by have := HN.out; omega)).mono ?_
                    rintro e w6 ⟨v6, rfl, ho, be⟩
                    obtain ⟨AM, hAM⟩ : ∃ s, strOfNums (encs (M.map clean)) = s := ⟨_, rfl⟩
                    have hcw := conv_bytes ho.bytes
                    rw [hAM] at hcw
                    have HAM := Lib.hid hAM
                    have KB6 := Lib.hid (KB5.out.trans (be.mono KB5.out.size)); have O6 := Lib.hid (O5.out.keep be)
                    have hcb6 := conv_bytes O6.out.bytes
                    rw [HPF.out, HBD.out] at hcb6
                    clear ho be hAM hcb
                    dsimp only
                    go_wp2_with fail
                    refine (tk_url a0 a2 BD rs HBD.out HR92.out HLEN.out sz1 sz2 hBDs AM A M Z HRS.out HA.out HZ.out HMZ.out HAM.out _ (tabs_below HT.out (KB6.out.alloc KB6.out.size _)) _ ?hl6).mono ?_
                    case hl6 => first | (simp; done) | (simp; omega)
                    rintro e w7 ⟨rfl, be6⟩
                    have K6 := Lib.hid ((KB6.out.alloc KB6.out.size _).trans (be6.mono (KB6.out.alloc KB6.out.size _).size))
                    clear be6
                    dsimp only
                    go_wp2_with fail
                    go_ret
                    exact ⟨by simp, K6.out⟩
                  · go_wp2_with fail
                    refine (tk_un a0 a2 BD rs HBD.out HR92.out HLEN.out sz1 sz2 hBDs AL HAL.out _ (tabs_below HT.out (KB5.out.alloc KB5.out.size _)) _ ?hl7).mono ?_
                    case hl7 => first | (simp; done) | (simp; omega)
                    rintro e w6 ⟨rfl, be6⟩
                    have K6 := Lib.hid ((KB5.out.alloc KB5.out.size _).trans (be6.mono (KB5.out.alloc KB5.out.size _).size))
                    clear be6
                    dsimp only
                    go_wp2_with fail
                    go_ret
                    exact ⟨by simp, K6.out⟩
set_option maxRecDepth 100000 in
set_option maxHeartbeats 8000000 in
theorem law7e (a0 : ByteArray) (a1 : Option Addr) (n cap1 : Nat) (a2 : ByteArray) (a3 : Int) (h30 : 0 ≤ a3) (h31 : a3 ≤ 255) (w : World) (A M Z : List Int) (hA : ∀ r ∈ A, isW r = true) (hZ : ∀ r ∈ Z, isW r = true) (hM0 : M = []) (hZ0 : Z = []) (rs : List Int) (hrs : rs = A ++ M ++ Z) (hv : Ints w (.slice a1 n cap1) rs) (hn : rs.length = n) (w0 : a0.size ≤ maxLen) (w2 : a2.size ≤ maxLen) (hT : Lib.Utf8Tabs 0 1 w) :
    Calls Tryd.prog 7 #[.string a0, .slice a1 n cap1, .string a2, .int .u8 a3] w fun e w' => e = .returned (.bool true) ∧ Below w.heap.size w w' := by
  obtain ⟨i0, hin, hz0, hz1, hz2⟩ := info_parts infoB
  have HV := Lib.hid hv; have HN := Lib.hid hn; have HT := Lib.hid hT; have HRS := Lib.hid hrs; have HA := Lib.hid hA; have HZ := Lib.hid hZ
  obtain ⟨a, ha⟩ : ∃ a, A.length = a := ⟨_, rfl⟩
  obtain ⟨mm, hmm⟩ : ∃ a, M.length = a := ⟨_, rfl⟩
  obtain ⟨zz, hzz⟩ : ∃ a, Z.length = a := ⟨_, rfl⟩
  have hnn : n = a + mm + zz := by rw [← hn, hrs]; simp; omega
  have hm00 : mm = 0 := by rw [← hmm, hM0]; rfl
  have hz00 : zz = 0 := by rw [← hzz, hZ0]; rfl
  have hna : n = a := by omega
  have HNA := Lib.hid hna
  have HNN := Lib.hid hnn; have HLA := Lib.hid ha; have HLM := Lib.hid hmm; have HLZ := Lib.hid hzz
  have HGA := Lib.hid (show ∀ i, i < a → isW (rs.getD i 0) = true by
    intro i hi; rw [hrs, List.append_assoc, get_l _ _ _ (by omega)]; exact hA _ (getD_mem _ _ (by omega)))
  have HSEG := Lib.hid (show ∀ k, k < mm → M.getD k 0 = rs.getD (a + k) 0 by
    intro q hq
    have e : rs = A ++ (M ++ Z) := by rw [hrs, List.append_assoc]
    rw [e, ← ha, getD_r, get_l _ _ _ (by omega)])
  have HMZ := Lib.hid (show (M = [] ∧ Z = []) ∨ ((∃ m M', M = m :: M' ∧ isW m = false) ∧ ∃ M' m, M = M' ++ [m] ∧ isW m = false) from Or.inl ⟨hM0, hZ0⟩)
  clear hv hn hT hrs hA hZ hM0 hZ0 ha hmm hzz hnn hna hm00 hz00 w0 w2
  go_enter Tryd.func7, Tryd.ntmps7
  go_wp2_with fail
  refine (zb26 a0 a2 a3 w _ rs HV.out).mono ?_
  rintro e w1 ⟨⟨b, rfl⟩, rfl⟩
  cases b
  · dsimp only
    go_wp2_with fail
    go_ret
    exact ⟨rfl, Below.refl _ _⟩
  dsimp only
  by_cases sz1 : a0.size ≤ 262144
  case neg =>
    go_wp2_with fail
    go_ret
    exact ⟨rfl, Below.refl _ _⟩
  by_cases sz2 : a2.size ≤ 262144
  case neg =>
    go_wp2_with fail
    go_ret
    exact ⟨rfl, Below.refl _ _⟩
  by_cases sz3 : n ≤ 65536
  case neg =>
    go_wp2_with fail
    go_ret
    exact ⟨rfl, Below.refl _ _⟩
  go_wp2_with fail
  go_loopw [9] (fun iv w' => ∃ i : Nat, iv = .int .i64 i ∧ w = w' ∧ i ≤ n ∧ Hid (∀ k, k < i → rs.getD k 0 ≠ 92)) (fun iv w' => n - (intOf iv).toNat)
  case atStart => exact ⟨0, rfl, rfl, by omega, Lib.hid (fun k hk => absurd hk (by omega))⟩
  case round =>
    obtain ⟨i, rfl, rfl, hi, H92⟩ := hrel
    by_cases hlt : i < n
    · obtain ⟨p2, c2, hsl, _, hcell⟩ := HV.out
      obtain ⟨x, rfl, hx⟩ := hcell i (by have := HN.out; omega)
      obtain rfl : a1 = some x := by injection hsl
      obtain ⟨c, hc⟩ : ∃ c, rs.getD i 0 = c := ⟨_, rfl⟩
      rw [hc] at hx
      have HC := Lib.hid hc
      clear hsl hcell hc
      by_cases h92 : c = 92
      · subst h92
        go_wp2_with fail
        go_ret
        exact ⟨rfl, Below.refl _ _⟩
      · have e92 : (c == 92) = false := by rw [beq_eq_false_iff_ne]; exact h92
        have HNE := Lib.hid h92
        clear h92
        go_wp2_with fail
        go_roundw
        case rel =>
          refine ⟨i + 1, by simp, by trivial, by omega, Lib.hid (fun k hk => ?_)⟩
          by_cases hki : k < i
          · exact H92.out k hki
          · obtain rfl : k = i := by omega
            rw [HC.out]; exact HNE.out
        case measure => simp only [intOf]; omega
    · obtain rfl : i = n := by omega
      clear hlt hi
      go_wp2_with fail
      go_loopw [10, 11] (fun sl iv w' => ∃ j : Nat, iv = .int .i64 j ∧ j ≤ i ∧ Hid (RelT w rs sl j w')) (fun sl iv w' => i - (intOf iv).toNat)
      case atStart => exact ⟨0, rfl, by omega, Lib.hid ⟨[], World.ownsRow_nil _ _ _ _, Below.refl _ _, by simp [encs]⟩⟩
      case round =>
        obtain ⟨j, rfl, hj, HR⟩ := hrel
        obtain ⟨pre, hO, hB, hp⟩ := HR.out
        have HO := Lib.hid hO; have KB := Lib.hid hB; have HP := Lib.hid hp
        clear hO hB hp HR
        by_cases hjn : j < i
        · obtain ⟨p2, c2, hsl, _, hcell⟩ := HV.out.keep KB.out
          obtain ⟨x, rfl, hx⟩ := hcell j (by have := HN.out; omega)
          obtain rfl : a1 = some x := by injection hsl
          obtain ⟨c, hc⟩ : ∃ c, rs.getD j 0 = c := ⟨_, rfl⟩
          rw [hc] at hx
          have HC := Lib.hid hc
          obtain ⟨J, hJ⟩ : ∃ J, j + 1 = J := ⟨_, rfl⟩
          have hJ' : (j : Int) + 1 = (J : Int) := by omega
          have hpl : pre.length ≤ 4194304 := by
            rw [HP.out]
            have := encs_len (rs.take j)
            rw [List.length_take] at this
            have h3 := HN.out
            omega
          have HPL := Lib.hid hpl
          clear hsl hcell hc hpl
          go_wp2_with fail
          refine (pr27 _ w.heap.size _ pre c HO.out KB.out.size HPL.out).mono ?_
          rintro e w2 ⟨v2, rfl, ho, hb⟩
          have O2 := Lib.hid ho; have K2 := Lib.hid (KB.out.trans hb)
          clear ho hb
          dsimp only
          go_wp2_with fail
          go_roundw
          case rel => exact ⟨J, by trivial, by omega, Lib.hid ⟨_, O2.out, K2.out, by rw [← hJ, take_more rs j (by have := HN.out; omega), HC.out, HP.out]⟩⟩
          case measure => simp only [intOf]; omega
        · obtain rfl : j = i := by omega
          have HPF := Lib.hid (show pre = encs rs by rw [HP.out, List.take_of_length_le (by have := HN.out; omega)])
          have HV2 := Lib.hid (HV.out.keep KB.out)
          clear hjn hj HP
          go_wp2_with fail
          go_loopw [12] (fun iv w' => ∃ k : Nat, iv = .int .i64 k ∧ wr = w' ∧ k ≤ a) (fun iv w' => j - (intOf iv).toNat)
          case atStart => exact ⟨0, rfl, rfl, by omega⟩
          case round =>
            obtain ⟨k, rfl, rfl, hk⟩ := hrel
            by_cases hka : k < a
            · have hkn : k < j := by have := HNA.out; omega
              obtain ⟨p2, c2, hsl, _, hcell⟩ := HV2.out
              obtain ⟨x, rfl, hx⟩ := hcell k (by have := HN.out; omega)
              obtain rfl : a1 = some x := by injection hsl
              obtain ⟨c, hc⟩ : ∃ c, rs.getD k 0 = c := ⟨_, rfl⟩
              rw [hc] at hx
              have HC := Lib.hid hc
              clear hsl hcell hc
              have HW := Lib.hid (show isW c = true by rw [← HC.out]; exact HGA.out k hka)
              go_wp2_with fail
              refine (ws28 c _).mono ?_
              rintro e w3 ⟨rfl, rfl⟩
              rw [HW.out]
              dsimp only
              go_wp2_with fail
              go_roundw
              case rel => exact ⟨k + 1, by simp, by trivial, by omega⟩
              case measure => simp only [intOf]; omega
            · obtain rfl : k = j := by have := HNA.out; omega
              clear hka hk
              go_wp2_with fail
              go_loopw [13] (fun ev w' => ev = .int .i64 k ∧ wr = w') (fun ev w' => 0)
              case atStart => exact ⟨rfl, rfl⟩
              case round =>
                obtain ⟨rfl, rfl⟩ := hrel
                go_wp2_with fail
                have HR92 := Lib.hid (show ∀ r ∈ rs, r ≠ 92 by
                  intro r hr
                  obtain ⟨q, hq, rfl⟩ := List.mem_iff_getElem.1 hr
                  have := H92.out q (by have := HN.out; omega)
                  simpa [List.getD, hq] using this)
                have HLEN := Lib.hid (show rs.length ≤ 65536 by have := HN.out; omega)
                refine (zc29e _ _ rs rs 0 k 0 (k : Int) rfl (by simp) HV2.out HN.out (fun k hk => by rw [Nat.zero_add]) (by have := HN.out; omega) (by have := HN.out; omega)).mono ?_
                rintro e w5 ⟨v5, rfl, ho, be⟩
                obtain ⟨AL, hAL⟩ : ∃ s, strOfNums (encs (rs.map clean)) = s := ⟨_, rfl⟩
                have hcv := conv_bytes ho.bytes
                rw [hAL] at hcv
                have hALs : AL.size ≤ 262144 := by rw [← hAL, strOfNums_size]; have h1 := encs_len (rs.map clean); have h2 := HLEN.out; rw [List.length_map] at h1; omega
                have HAL := Lib.hid hAL
                have KB5 := Lib.hid (KB.out.trans (be.mono KB.out.size)); have O5 := Lib.hid (HO.out.keep be)
                have HV5 := Lib.hid (HV2.out.keep be)
                clear ho be hAL
                dsimp only
                obtain ⟨kk, hkk⟩ : ∃ k : Nat, a3 % 8 = k := ⟨(a3 % 8).toNat, by omega⟩
                have hk8 : kk < 8 := by omega
                obtain ⟨BD, hBD⟩ : ∃ s, strOfNums (encs rs) = s := ⟨_, rfl⟩
                have hcb := conv_bytes O5.out.bytes
                rw [HPF.out, hBD] at hcb
                have HBD := Lib.hid hBD
                have hBDs : BD.size ≤ 262144 := by rw [← hBD, strOfNums_size]; have h1 := encs_len rs; have h2 := HN.out; omega
                clear hBD
                rcases (show kk = 0 ∨ kk = 1 ∨ kk = 2 ∨ kk = 3 ∨ kk = 4 ∨ kk = 5 ∨ kk = 6 ∨ kk = 7 by omega) with rfl | rfl | rfl | rfl | rfl | rfl | rfl | rfl
                · go_wp2_with fail
                  refine (tk_id a0 a2 BD rs HBD.out HR92.out HLEN.out sz1 sz2 hBDs AL HAL.out _ (tabs_below HT.out (KB5.out.alloc KB5.out.size _)) _ ?hl0).mono ?_
                  case hl0 => first | (simp; done) | (simp; omega)
                  rintro e w6 ⟨rfl, be6⟩
                  have K6 := Lib.hid ((KB5.out.alloc KB5.out.size _).trans (be6.mono (KB5.out.alloc KB5.out.size _).size))
                  clear be6
                  dsimp only
                  go_wp2_with fail
                  go_ret
                  exact ⟨by simp, K6.out⟩
                · go_wp2_with fail
                  refine (tk_dim a0 a2 BD rs HBD.out HR92.out HLEN.out sz1 sz2 hBDs AL HAL.out _ (tabs_below HT.out (KB5.out.alloc KB5.out.size _)) _ ?hl1).mono ?_
                  case hl1 => first | (simp; done) | (simp; omega)
                  rintro e w6 ⟨rfl, be6⟩
                  have K6 := Lib.hid ((KB5.out.alloc KB5.out.size _).trans (be6.mono (KB5.out.alloc KB5.out.size _).size))
                  clear be6
                  dsimp only
                  go_wp2_with fail
                  go_ret
                  exact ⟨by simp, K6.out⟩
                · go_wp2_with fail
                  refine (tk_hash a0 a2 BD rs HBD.out HR92.out HLEN.out sz1 sz2 hBDs AL HAL.out _ (tabs_below HT.out (KB5.out.alloc KB5.out.size _)) _ ?hl2).mono ?_
                  case hl2 => first | (simp; done) | (simp; omega)
                  rintro e w6 ⟨rfl, be6⟩
                  have K6 := Lib.hid ((KB5.out.alloc KB5.out.size _).trans (be6.mono (KB5.out.alloc KB5.out.size _).size))
                  clear be6
                  dsimp only
                  go_wp2_with fail
                  go_ret
                  exact ⟨by simp, K6.out⟩
                · go_wp2_with fail
                  refine (tk_at a0 a2 BD rs HBD.out HR92.out HLEN.out sz1 sz2 hBDs AL HAL.out _ (tabs_below HT.out (KB5.out.alloc KB5.out.size _)) _ ?hl3).mono ?_
                  case hl3 => first | (simp; done) | (simp; omega)
                  rintro e w6 ⟨rfl, be6⟩
                  have K6 := Lib.hid ((KB5.out.alloc KB5.out.size _).trans (be6.mono (KB5.out.alloc KB5.out.size _).size))
                  clear be6
                  dsimp only
                  go_wp2_with fail
                  go_ret
                  exact ⟨by simp, K6.out⟩
                · go_wp2_with fail
                  refine (tk_fn a0 a2 BD rs HBD.out HR92.out HLEN.out sz1 sz2 hBDs AL HAL.out _ (tabs_below HT.out (KB5.out.alloc KB5.out.size _)) _ ?hl4).mono ?_
                  case hl4 => first | (simp; done) | (simp; omega)
                  rintro e w6 ⟨rfl, be6⟩
                  have K6 := Lib.hid ((KB5.out.alloc KB5.out.size _).trans (be6.mono (KB5.out.alloc KB5.out.size _).size))
                  clear be6
                  dsimp only
                  go_wp2_with fail
                  go_ret
                  exact ⟨by simp, K6.out⟩
                · go_wp2_with fail
                  refine (tk_str a0 a2 BD rs HBD.out HR92.out HLEN.out sz1 sz2 hBDs AL HAL.out _ (tabs_below HT.out (KB5.out.alloc KB5.out.size _)) _ ?hl5).mono ?_
                  case hl5 => first | (simp; done) | (simp; omega)
                  rintro e w6 ⟨rfl, be6⟩
                  have K6 := Lib.hid ((KB5.out.alloc KB5.out.size _).trans (be6.mono (KB5.out.alloc KB5.out.size _).size))
                  clear be6
                  dsimp only
                  go_wp2_with fail
                  go_ret
                  exact ⟨by simp, K6.out⟩
                · go_wp2_with fail
                  refine (zc29e _ _ rs M a mm (k : Int) (k : Int) (by rw [HNA.out]) (by have := HNA.out; have := HNN.out; omega) HV5.out HLM.out HSEG.out (by have := HNN.out; have := HN.out; omega) (by have := HN.out; omega)).mono ?_
                  rintro e w6 ⟨v6, rfl, ho, be⟩
                  obtain ⟨AM, hAM⟩ : ∃ s, strOfNums (encs (M.map clean)) = s := ⟨_, rfl⟩
                  have hcw := conv_bytes ho.bytes
                  rw [hAM] at hcw
                  have HAM := Lib.hid hAM
                  have KB6 := Lib.hid (KB5.out.trans (be.mono KB5.out.size)); have O6 := Lib.hid (O5.out.keep be)
                  have hcb6 := conv_bytes O6.out.bytes
                  rw [HPF.out, HBD.out] at hcb6
                  clear ho be hAM hcb
                  dsimp only
                  go_wp2_with fail
                  refine (tk_url a0 a2 BD rs HBD.out HR92.out HLEN.out sz1 sz2 hBDs AM A M Z HRS.out HA.out HZ.out HMZ.out HAM.out _ (tabs_below HT.out (KB6.out.alloc KB6.out.size _)) _ ?hl6).mono ?_
                  case hl6 => first | (simp; done) | (simp; omega)
                  rintro e w7 ⟨rfl, be6⟩
                  have K6 := Lib.hid ((KB6.out.alloc KB6.out.size _).trans (be6.mono (KB6.out.alloc KB6.out.size _).size))
                  clear be6
                  dsimp only
                  go_wp2_with fail
                  go_ret
                  exact ⟨by simp, K6.out⟩
                · go_wp2_with fail
                  refine (tk_un a0 a2 BD rs HBD.out HR92.out HLEN.out sz1 sz2 hBDs AL HAL.out _ (tabs_below HT.out (KB5.out.alloc KB5.out.size _)) _ ?hl7).mono ?_
                  case hl7 => first | (simp; done) | (simp; omega)
                  rintro e w6 ⟨rfl, be6⟩
                  have K6 := Lib.hid ((KB5.out.alloc KB5.out.size _).trans (be6.mono (KB5.out.alloc KB5.out.size _).size))
                  clear be6
                  dsimp only
                  go_wp2_with fail
                  go_ret
                  exact ⟨by simp, K6.out⟩
theorem FnDecodedTextOfEscapeFreeTokens_walk (a0 : ByteArray) (a1 : Option Addr) (len1 cap1 : Nat) (z1 : List Int) (a2 : ByteArray) (a3 : Int) (w : World) (w0 : a0.size ≤ maxLen) (w1 : IsRow .i32 w a1 len1 cap1 z1) (w2 : a2.size ≤ maxLen) (w3 : (Lit.int .u8 a3).wf = true) (hT : Lib.Utf8Tabs 0 1 w) :
    Calls Tryd.prog 7 #[.string a0, .slice a1 len1 cap1, .string a2, .int .u8 a3] w fun e w' => e = .returned (.bool true) ∧ Below w.heap.size w w' := by
  obtain ⟨hv, hl⟩ := IsRow.ints w1
  have h3 : 0 ≤ a3 ∧ a3 ≤ 255 := by
    have hz := w3
    simp only [Lit.wf, Bool.and_eq_true, decide_eq_true_eq] at hz
    have e1 : IntKind.u8.min = 0 := by decide
    have e2 : IntKind.u8.max = 255 := by decide
    omega
  obtain ⟨A, M, Z, hrs, hA, hZ, hM⟩ := trim (z1.take len1)
  rcases hM with ⟨hM0, hZ0⟩ | ⟨⟨m0, M', hM1, hm0⟩, M'', m1, hM2, hm1⟩
  · exact law7e a0 a1 len1 cap1 a2 a3 h3.1 h3.2 w A M Z hA hZ hM0 hZ0 _ hrs hv hl w0 w2 hT
  · exact law7 a0 a1 len1 cap1 a2 a3 h3.1 h3.2 w A M Z hA hZ m0 M' M'' m1 hM1 hm0 hM2 hm1 _ hrs hv hl w0 w2 hT
end Go.Proofs.YtcnembabenlheaaDoor
