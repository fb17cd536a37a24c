/-
  The walk of FnDecodeEscapesUnicodeEscapeRoundTrip.
-/
import Derived.Test.YtcnembabenlheaaDoorT13
import Derived.Test.YtcnembabenlheaaDoorZ7
import Derived.Laws.Shifts
import Derived.Deep.QuietTactic
namespace Go.Proofs.YtcnembabenlheaaDoor
open Go.ChangeShapes Go.WideShapes Go.ChangeAt Go.RowKit
set_option linter.unusedVariables false
noncomputable def lexC5 (fl : Int) : Array Value := (Tryd.prog.built 106 [(31, .int .u8 fl)]).getD #[]
set_option maxRecDepth 100000 in
set_option maxHeartbeats 4000000 in
theorem ex16e (fl : Int) (st : Int) (s : ByteArray) (us : List Int) (w : World) (hT : Lib.Utf8Tabs 0 1 w) (hs : s.size ≤ 1048576) (hch : Ch32 s 0 us) :
    Calls Tryd.prog 16 #[.int .u8 fl, .int .i64 st, .string s, .bool true] w fun e w' => (∃ v, e = .returned (.tuple #[v, .bool true, .int .i64 0]) ∧ OwnU w' w.heap.size v us) ∧ Below w.heap.size w w' := by
  have HH := Lib.hid (fun p W hT => ue32 p st s true W hT hs us hch)
  have HT := Lib.hid hT
  clear hT hch
  go_enter Tryd.func16, Tryd.ntmps16
  go_wp2_with (refine wpList_buildTo rfl 106 #[(31, .tmp 12)] rfl (some 13) rfl (lexC5 fl) (by kernel_rfl) ?_)
  have KB0 := Lib.hid ((Below.refl w.heap.size w).alloc (Nat.le_refl _) (Obj.cells (lexC5 fl) 106))
  refine (HH.out _ _ (tabs_below HT.out KB0.out)).mono ?_
  rintro e w1 ⟨⟨v, rfl, ho⟩, be⟩
  have HO := Lib.hid (ho.mono KB0.out.size); have KB1 := Lib.hid (KB0.out.trans (be.mono KB0.out.size))
  clear ho be
  dsimp only
  go_wp2_with fail
  go_ret3
  exact ⟨⟨v, rfl, HO.out⟩, KB1.out⟩
theorem zb18 (fl st : Int) (w : World) (v : Value) (xs : List Int) (h : Units w v xs) : Calls Tryd.prog 18 #[.int .u8 fl, .int .i64 st, v] w fun e w' => (∃ b, e = .returned (.bool b) ∧ (b = true → xs.length ≤ 1048576)) ∧ w = w' := by
  obtain ⟨p, c, rfl, hc, _⟩ := h
  by_cases h1 : xs.length ≤ 1048576
  · go_enter Tryd.func18, Tryd.ntmps18
    go_wp2_with fail
    go_ret
    exact ⟨⟨_, rfl, fun _ => h1⟩, rfl⟩
  · go_enter Tryd.func18, Tryd.ntmps18
    go_wp2_with fail
    go_ret
    exact ⟨⟨false, rfl, fun h => by cases h⟩, rfl⟩
theorem u32_and_nat (a b : Nat) (ha : a < 4294967296) (hb : b < 4294967296) : bits .and .u32 (a : Int) (b : Int) = ((a &&& b : Nat) : Int) := by
  have h : a &&& b < 4294967296 := Nat.lt_of_le_of_lt Nat.and_le_left ha
  show IntKind.u32.wrap ((BitVec.ofInt 32 (a : Int) &&& BitVec.ofInt 32 (b : Int)).toNat : Int) = _
  rw [BitVec.toNat_and, BitVec.ofInt_natCast, BitVec.toNat_ofNat, BitVec.ofInt_natCast, BitVec.toNat_ofNat, Nat.mod_eq_of_lt (by omega), Nat.mod_eq_of_lt (by omega), IntKind.wrap_u32]
  omega
theorem and15 (x : Int) (h0 : 0 ≤ x) (h1 : x < 65536) : bits .and .u32 x 15 = x % 16 := by
  obtain ⟨n, rfl⟩ : ∃ n : Nat, x = n := ⟨x.toNat, by omega⟩
  have := u32_and_nat n 15 (by omega) (by omega)
  rw [show (15 : Nat) = 2 ^ 4 - 1 from rfl, Nat.and_two_pow_sub_one_eq_mod] at this
  simpa using this
/-- the fact behind the rounds -/
def RelE (w : World) (us : List Int) (sl : Value) (i : Nat) (w' : World) : Prop := ∃ pre : List Int, i ≤ us.length ∧ OwnB w' w.heap.size sl pre ∧ Below w.heap.size w w' ∧ pre ++ encL i (us.drop i) = encL 0 us ∧ pre.length ≤ 6 * i
theorem encL_at (us : List Int) (i : Nat) (h : i < us.length) : encL i (us.drop i) = enc1 i (us.getD i 0) ++ encL (i + 1) (us.drop (i + 1)) := by
  rw [List.drop_eq_getElem_cons h, encL]; simp [List.getD, h]
theorem enc1_esc (k : Nat) (u : Int) (up : Bool) (h : ¬ (32 ≤ u ∧ u < 127 ∧ u ≠ 92)) (hu : (k % 2 == 1) = up) : enc1 k u = [92, 117] ++ [hdig up (u / 4096 % 16), hdig up (u / 256 % 16)] ++ [hdig up (u / 16 % 16), hdig up (u % 16)] := by
  unfold enc1; rw [if_neg h, hu]; rfl
set_option maxRecDepth 100000 in
set_option maxHeartbeats 8000000 in
theorem FnDecodeEscapesUnicodeEscapeRoundTrip_walk (a0 : Int) (a1 : Int) (a2 : Option Addr) (len2 cap2 : Nat) (z2 : List Int) (w : World) (w0 : (Lit.int .u8 a0).wf = true) (w1 : (Lit.int .i64 a1).wf = true) (w2 : IsRow .u16 w a2 len2 cap2 z2) (hT : Lib.Utf8Tabs 0 1 w) :
    Calls Tryd.prog 5 #[.int .u8 a0, .int .i64 a1, .slice a2 len2 cap2] w fun e w' => e = .returned (.bool true) ∧ Below w.heap.size w w' := by
  obtain ⟨i0, hin, hz0, hz1, hz2⟩ := info_parts infoB
  obtain ⟨hun, hul⟩ := IsRow.units w2
  have husz : ∀ u ∈ z2.take len2, 0 ≤ u ∧ u ≤ 65535 := by
    intro u hu
    have hz : (Lit.int .u16 u).wf = true := by
      rcases w2 with ⟨_, _, _, rfl⟩ | ⟨x, _, _, _, _, _, h⟩
      · simp at hu
      · exact h u (List.mem_of_mem_take hu)
    simp only [Lit.wf, Bool.and_eq_true, decide_eq_true_eq] at hz
    have e1 : IntKind.u16.min = 0 := by decide
    have e2 : IntKind.u16.max = 65535 := by decide
    omega
  obtain ⟨us, hus⟩ : ∃ us, z2.take len2 = us := ⟨_, rfl⟩
  rw [hus] at hun hul husz
  have HCH := Lib.hid (enc_all us husz)
  have HUN := Lib.hid hun; have HUZ := Lib.hid husz
  have HEL := Lib.hid (encL_len us 0)
  have HT := Lib.hid hT
  have hfl : 0 ≤ a0 ∧ a0 ≤ 255 := by
    simp only [Lit.wf, Bool.and_eq_true, decide_eq_true_eq] at w0
    have e1 : IntKind.u8.min = 0 := by decide
    have e2 : IntKind.u8.max = 255 := by decide
    omega
  obtain ⟨n, hn⟩ : ∃ n, us.length = n := ⟨_, rfl⟩
  obtain rfl : len2 = n := by rw [← hul]; exact hn
  have HN := Lib.hid hn
  clear hT w0 w1 w2 hus hun hul husz hn
  have hm3 : IntKind.u8.wrap (a0 % 3) = a0 % 3 := by rw [IntKind.wrap_u8]; omega
  go_enter Tryd.func5, Tryd.ntmps5
  go_wp2_with fail
  refine (zb18 a0 a1 w _ us HUN.out).mono ?_
  rintro e w1 ⟨⟨b, rfl, hb⟩, rfl⟩
  cases b
  · dsimp only
    go_wp2_with fail
    go_ret
    exact ⟨rfl, Below.refl _ _⟩
  clear hb
  by_cases hlen : len2 ≤ 65536
  case neg =>
    dsimp only
    go_wp2_with fail
    go_ret
    exact ⟨rfl, Below.refl _ _⟩
  dsimp only
  go_wp2_with (at_make; refine wpList_make_own _ rfl _ _ 38 rfl w.heap.size 5 i0 (.int .u8 0) 1 Tryd.underlying38 hin hz0 hz1 _ _ _ (6 * len2) rfl rfl (by omega) (by rw [hz2]; omega) (by unfold maxLen; omega) (Nat.le_refl _) ?_; intro wm hown1 hg1; have HO0 := Lib.hid hown1; have HB0 := Lib.hid (below_grown hg1 w.heap.size (Nat.le_refl _) (by intro k hk; cases hk)); clear hown1 hg1)
  go_loopw [7, 8] (fun sl iv w' => ∃ i : Nat, iv = .int .i64 i ∧ i ≤ len2 ∧ Hid (RelE w us sl i w')) (fun sl iv w' => len2 - (intOf iv).toNat)
  case atStart =>
    exact ⟨0, rfl, by omega, Lib.hid ⟨[], by omega, HO0.out, HB0.out, rfl, by simp⟩⟩
  case round =>
    obtain ⟨i, rfl, hi, HR⟩ := hrel
    clear HO0 HB0
    obtain ⟨pre, _, hO, hB, hU, hpl⟩ := HR.out
    have HO := Lib.hid hO; have KB := Lib.hid hB; have HU := Lib.hid hU
    clear hO hB hU HR
    by_cases hlt : i < len2
    · have hlt' : i < us.length := by have := HN.out; omega
      have hu0 := HUZ.out (us.getD i 0) (by simp [List.getD, hlt'])
      have HE := Lib.hid (encL_at us i hlt')
      obtain ⟨pa, cc, hsl, _, hcell⟩ := HUN.out.keep KB.out
      obtain ⟨x, rfl, hx⟩ := hcell i hlt'
      obtain rfl : a2 = some x := by injection hsl
      obtain ⟨u, hu⟩ : ∃ u, us.getD i 0 = u := ⟨_, rfl⟩
      rw [hu] at hu0 hx HE
      obtain ⟨u1, u2⟩ := hu0
      obtain ⟨I, hI⟩ : ∃ I, i + 1 = I := ⟨_, rfl⟩
      have hI' : (i : Int) + 1 = (I : Int) := by omega
      rw [hI] at HE
      clear hsl hcell hu hlt'
      by_cases hp : 32 ≤ u ∧ u < 127 ∧ u ≠ 92
      · have HE1 := Lib.hid (show enc1 i u = [u] by unfold enc1; rw [if_pos hp])
        have p1 : 32 ≤ u := hp.1
        have p2 : u ≤ 126 := by omega
        have p3 : (u != 92) = true := by simp; exact hp.2.2
        have HOA := Lib.hid (World.ownsRow.alloc HO.out (.cells #[.int .u8 u] 5))
        clear hp
        go_wp2_with (at_builtin; refine wpList_append_own _ rfl _ _ 38 rfl w.heap.size 5 i0 (.int .u8 0) 1 1 Tryd.underlying38 hin hz0 hz1 hz2 rfl (by decide) _ pre.length (cellsB (pre)) rfl HOA.out ⟨wr.heap.size, 0, none⟩ 1 1 [.int .u8 u] rfl rfl (cell_one _ _ _) (by intro u hu; simp at hu; subst hu; rfl) (by unfold maxLen; (try simp only [List.length_append, List.length_cons, List.length_nil]); omega) (by (try simp only [List.length_append, List.length_cons, List.length_nil]); omega) (by have := KB.out.size; simp; omega) ?_; intro v1 w2 hown1 hg1 hnil1; have OA1 := Lib.hid (own_appB hown1); have KA1 := Lib.hid (KB.out.trans ((below_alloc1 wr w.heap.size KB.out.size _).trans (below_grown hg1 w.heap.size (by have := KB.out.size; simp; omega) HO.out.lt))); clear hown1 hg1 hnil1)
        go_roundw
        case rel => exact ⟨I, by trivial, by omega, Lib.hid ⟨pre ++ [u], by have := HN.out; omega, OA1.out, KA1.out, by rw [← HU.out, HE.out, HE1.out]; simp, by simp; omega⟩⟩
        case measure => simp only [intOf]; omega
      · obtain ⟨up, hup⟩ : ∃ up, (i % 2 == 1) = up := ⟨_, rfl⟩
        have hpq : ((i : Int) % 2 == 1) = up := by rw [← hup, Bool.eq_iff_iff]; simp; omega
        have HE1 := Lib.hid (enc1_esc i u up hp hup)
        obtain ⟨d3, hd3⟩ : ∃ d, u / 4096 % 16 = d := ⟨_, rfl⟩
        obtain ⟨d2, hd2⟩ : ∃ d, u / 256 % 16 = d := ⟨_, rfl⟩
        obtain ⟨d1, hd1⟩ : ∃ d, u / 16 % 16 = d := ⟨_, rfl⟩
        obtain ⟨d0, hd0⟩ : ∃ d, u % 16 = d := ⟨_, rfl⟩
        rw [hd3, hd2, hd1, hd0] at HE1
        have b3 : 0 ≤ d3 ∧ d3 ≤ 15 := by omega
        have b2 : 0 ≤ d2 ∧ d2 ≤ 15 := by omega
        have b1 : 0 ≤ d1 ∧ d1 ≤ 15 := by omega
        have b0 : 0 ≤ d0 ∧ d0 ≤ 15 := by omega
        have HX3 := Lib.hid hd3; have HX2 := Lib.hid hd2; have HX1 := Lib.hid hd1; have HX0 := Lib.hid hd0
        have HB3 := Lib.hid b3; have HB2 := Lib.hid b2; have HB1 := Lib.hid b1; have HB0 := Lib.hid b0
        have HOA := Lib.hid (World.ownsRow.alloc HO.out (.cells #[.int .u8 92, .int .u8 117] 5))
        have hcs : (u ≤ 31) ∨ (32 ≤ u ∧ 127 ≤ u) ∨ (32 ≤ u ∧ u ≤ 126 ∧ (u != 92) = false) := by
          by_cases h92 : u = 92
          · exact Or.inr (Or.inr ⟨by omega, by omega, by simp [h92]⟩)
          · omega
        have g3 : bits .and .u32 (u / 4096) 15 = d3 := by rw [and15 _ (by omega) (by omega)]; exact hd3
        have g2 : bits .and .u32 (u / 256) 15 = d2 := by rw [and15 _ (by omega) (by omega)]; exact hd2
        have g1 : bits .and .u32 (u / 16) 15 = d1 := by rw [and15 _ (by omega) (by omega)]; exact hd1
        have g0 : bits .and .u32 u 15 = d0 := by rw [and15 _ (by omega) (by omega)]; exact hd0
        obtain ⟨q1, hq1⟩ : ∃ q : List Int, pre ++ [92, 117] = q := ⟨_, rfl⟩
        obtain ⟨q2, hq2⟩ : ∃ q : List Int, q1 ++ [hdig up d3, hdig up d2] = q := ⟨_, rfl⟩
        have hl1 : q1.length ≤ 6 * i + 2 := by rw [← hq1]; simp; omega
        have hl2 : q2.length ≤ 6 * i + 4 := by rw [← hq2]; simp; omega
        have HQ1 := Lib.hid hq1; have HQ2 := Lib.hid hq2
        clear hp hup hd3 hd2 hd1 hd0 b3 b2 b1 b0 hq1 hq2
        rcases hcs with c1 | ⟨c1, c2⟩ | ⟨c1, c2, c3⟩
        all_goals
            go_wp2_with (at_builtin; refine wpList_append_own _ rfl _ _ 38 rfl w.heap.size 5 i0 (.int .u8 0) 1 1 Tryd.underlying38 hin hz0 hz1 hz2 rfl (by decide) _ pre.length (cellsB (pre)) rfl HOA.out ⟨wr.heap.size, 0, none⟩ 2 2 [.int .u8 92, .int .u8 117] rfl rfl (cell_two _ _ _ _) (by intro u hu; simp at hu; rcases hu with rfl | rfl <;> rfl) (by unfold maxLen; (try simp only [List.length_append, List.length_cons, List.length_nil]); omega) (by (try simp only [List.length_append, List.length_cons, List.length_nil]); omega) (by have := KB.out.size; simp; omega) ?_; intro v1 w2 hown1 hg1 hnil1; have OA1 := Lib.hid (show OwnB w2 w.heap.size v1 q1 by rw [← HQ1.out]; exact own_appB2 hown1); have KA1 := Lib.hid (KB.out.trans ((below_alloc1 wr w.heap.size KB.out.size _).trans (below_grown hg1 w.heap.size (by have := KB.out.size; simp; omega) HO.out.lt))); clear hown1 hg1 hnil1)
            refine (hd19 d3 up HB3.out.1 HB3.out.2 _).mono ?_
            rintro e wz ⟨rfl, rfl⟩
            dsimp only
            go_wp2_with fail
            refine (hd19 d2 up HB2.out.1 HB2.out.2 _).mono ?_
            rintro e wz ⟨rfl, rfl⟩
            have HOA1 := Lib.hid (World.ownsRow.alloc OA1.out (.cells #[.int .u8 (hdig up d3), .int .u8 (hdig up d2)] 5))
            dsimp only
            go_wp2_with (at_builtin; refine wpList_append_own _ rfl _ _ 38 rfl w.heap.size 5 i0 (.int .u8 0) 1 1 Tryd.underlying38 hin hz0 hz1 hz2 rfl (by decide) _ q1.length (cellsB q1) rfl HOA1.out ⟨w2.heap.size, 0, none⟩ 2 2 [.int .u8 (hdig up d3), .int .u8 (hdig up d2)] rfl rfl (cell_two _ _ _ _) (by intro u hu; simp at hu; rcases hu with rfl | rfl <;> rfl) (by unfold maxLen; (try simp only [List.length_append, List.length_cons, List.length_nil]); omega) (by (try simp only [List.length_append, List.length_cons, List.length_nil]); omega) (by have := KA1.out.size; simp; omega) ?_; intro v2 w3 hown2 hg2 hnil2; have OA2 := Lib.hid (show OwnB w3 w.heap.size v2 q2 by rw [← HQ2.out]; exact own_appB2 hown2); have KA2 := Lib.hid (KA1.out.trans ((below_alloc1 w2 w.heap.size KA1.out.size _).trans (below_grown hg2 w.heap.size (by have := KA1.out.size; simp; omega) OA1.out.lt))); clear hown2 hg2 hnil2)
            refine (hd19 d1 up HB1.out.1 HB1.out.2 _).mono ?_
            rintro e wz ⟨rfl, rfl⟩
            dsimp only
            go_wp2_with fail
            refine (hd19 d0 up HB0.out.1 HB0.out.2 _).mono ?_
            rintro e wz ⟨rfl, rfl⟩
            have HOA2 := Lib.hid (World.ownsRow.alloc OA2.out (.cells #[.int .u8 (hdig up d1), .int .u8 (hdig up d0)] 5))
            dsimp only
            go_wp2_with (at_builtin; refine wpList_append_own _ rfl _ _ 38 rfl w.heap.size 5 i0 (.int .u8 0) 1 1 Tryd.underlying38 hin hz0 hz1 hz2 rfl (by decide) _ q2.length (cellsB q2) rfl HOA2.out ⟨w3.heap.size, 0, none⟩ 2 2 [.int .u8 (hdig up d1), .int .u8 (hdig up d0)] rfl rfl (cell_two _ _ _ _) (by intro u hu; simp at hu; rcases hu with rfl | rfl <;> rfl) (by unfold maxLen; (try simp only [List.length_append, List.length_cons, List.length_nil]); omega) (by (try simp only [List.length_append, List.length_cons, List.length_nil]); omega) (by have := KA2.out.size; simp; omega) ?_; intro v3 w4 hown3 hg3 hnil3; have OA3 := Lib.hid (own_appB2 hown3); have KA3 := Lib.hid (KA2.out.trans ((below_alloc1 w3 w.heap.size KA2.out.size _).trans (below_grown hg3 w.heap.size (by have := KA2.out.size; simp; omega) OA2.out.lt))); clear hown3 hg3 hnil3)
            go_roundw
            case rel => exact ⟨I, by trivial, by omega, Lib.hid ⟨q2 ++ [hdig up d1, hdig up d0], by have := HN.out; omega, OA3.out, KA3.out, by rw [← HU.out, HE.out, HE1.out, ← HQ2.out, ← HQ1.out]; simp, by simp; omega⟩⟩
            case measure => simp only [intOf]; omega
    · have HE := Lib.hid (show pre = encL 0 us by have h := HU.out; rw [List.drop_eq_nil_of_le (by have := HN.out; omega)] at h; simpa [encL] using h)
      have hlp : pre.length ≤ 393216 := by omega
      obtain ⟨S, hS⟩ : ∃ S, strOfNums (encL 0 us) = S := ⟨_, rfl⟩
      have hcv := conv_bytes HO.out.bytes
      rw [HE.out, hS] at hcv
      have hSs : S.size ≤ 1048576 := by rw [← hS, strOfNums_size, ← HE.out]; omega
      have HC := Lib.hid (show Ch32 S 0 us by rw [← hS]; exact HCH.out)
      clear hS
      go_wp2_with fail
      refine (ex16e (a0 % 3) a1 S us wr (tabs_below HT.out KB.out) hSs HC.out).mono ?_
      rintro e wx ⟨⟨v, rfl, ho⟩, be⟩
      have U1 := Lib.hid ho.units; have U2 := Lib.hid (HUN.out.keep (KB.out.trans (be.mono KB.out.size))); have KBx := Lib.hid (KB.out.trans (be.mono KB.out.size))
      have HLn := Lib.hid (show us.length ≤ 4194304 by have := HN.out; omega)
      clear ho be
      dsimp only
      go_wp2_with fail
      refine (eq17 wx _ _ us us U1.out U2.out HLn.out HLn.out).mono ?_
      rintro e wy ⟨⟨b, rfl, hb⟩, n, rfl⟩
      obtain rfl := hb.2 rfl
      clear hb
      dsimp only
      go_wp2_with fail
      go_ret
      exact ⟨rfl, below_dn KBx.out _⟩
end Go.Proofs.YtcnembabenlheaaDoor
