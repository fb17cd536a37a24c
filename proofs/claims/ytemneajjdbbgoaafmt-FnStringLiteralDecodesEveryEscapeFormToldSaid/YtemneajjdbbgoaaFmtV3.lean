/-
  zzEncode: what it writes decodes to the units.
-/
import Derived.Test.YtemneajjdbbgoaaFmtV2b
import Derived.Deep.CutBlock
namespace Go.Proofs.YtemneajjdbbgoaaFmt
open Go.ChangeShapes Go.WideShapes Go.ChangeAt Go.RowKit
set_option linter.unusedVariables false
theorem addr_add (a : Addr) (m n : Nat) : (a.add m).add n = a.add (m + n) := by
  unfold Addr.add
  by_cases h1 : m = 0 <;> by_cases h2 : n = 0 <;> simp [h1, h2, Nat.add_assoc]
theorem wp_appM {rest : List Oper} {opa : Array Oper} {o : Oper} {a : Act} {Q : Exit → Act → World → Prop} {w : World} (hgd : o.guard = none) (s x : Operand)
    (ho : o.op = .call { callee := .builtin .append, args := #[s, x], argTypes := #[23, 23] }) (B : Nat) (v : Value) (xs ys : List Int) (hs : a.eval s = v) (hO : OwnB w B v xs)
    (ad : Addr) (m c : Nat) (hm : ys.length = m) (hx : a.eval x = .slice (some ad) m c) (hn : ∀ j, j < ys.length → w.cell? (ad.add j) = some (.int .u8 (ys.getD j 0))) (hB : B ≤ w.heap.size) (hl : xs.length + ys.length ≤ 4194304)
    (h : ∀ v' w', OwnB w' B v' (xs ++ ys) → Mv w w' v v' → wpList Tryf.prog opa Q rest (a.put o.dst v') w') : wpList Tryf.prog opa Q (o :: rest) a w := by
  subst hm
  exact wp_appB (ops := []) hgd s x ho B v xs ys hs hO ad c hx hn hB hl h
/-- at the head of a round: enc says the first i units -/
def EnS (w0 wx : World) (U : List Int) (i b : Nat) (ve vr : Value) : Prop := ∃ E R, Two wx w0.heap.size ve E vr R ∧ Enc E (U.take i) ∧ E.length ≤ b ∧ R.length ≤ b ∧ Below w0.heap.size w0 wx
/-- a piece for one unit -/
def PcU (D : List Int) (u : Nat) : Prop := Pc D [(u : Int)] ∧ D.length ≤ 11
theorem pcu_x (up : Bool) (u : Nat) (h : u < 256) : PcU ([92, 120] ++ hexN up u 2) u := by
  have h1 := pc_x (hexN up u 2) (hexN_all up u 2) (hexN_len up u 2)
  rw [hexN_dv up u 2 (by omega) (by omega)] at h1
  exact ⟨h1, by simp [hexN_len]⟩
theorem pcu_u (up : Bool) (u : Nat) (h : u < 65536) : PcU ([92, 117] ++ hexN up u 4) u := by
  have h1 := pc_u (hexN up u 4) (hexN_all up u 4) (hexN_len up u 4)
  rw [hexN_dv up u 4 (by omega) (by omega)] at h1
  exact ⟨h1, by simp [hexN_len]⟩
theorem pcu_b (up : Bool) (u n z : Nat) (h : u < 65536) (h1 : 1 ≤ n) (h4 : n ≤ 4) (hn : u < 16 ^ n) (hz : z ≤ 3) : PcU ([92, 117, 123] ++ ((List.replicate z 48 ++ hexN up u n) ++ [125])) u := by
  have hd : dv (List.replicate z 48 ++ hexN up u n) = u := by rw [dv_zeros, hexN_dv up u n h4 hn]
  have h1 := pc_b (List.replicate z 48 ++ hexN up u n) ((hexN_all up u n).zeros z) (by simp [hexN_len]; omega) (by simp [hexN_len]; omega) (by rw [hd]; omega)
  rw [hd] at h1
  exact ⟨h1, by simp [hexN_len]; omega⟩
theorem pcu_e (c u : Nat) (h : esc1 c (u : Int)) : PcU [92, (c : Int)] u := ⟨pc_e c u h, by simp⟩
theorem pcu_id (u : Nat) (h : u < 65536) (hi : idA u = true) : PcU ([92] ++ u8s u) u := by
  have h1 := of_decide_eq_true hi
  refine ⟨pc_id u h (by omega) (by unfold isId; omega), ?_⟩
  have := u8s_len u
  simp; omega
theorem pcu_raw (u : Nat) (h : u < 65536) (hs : u < 55296 ∨ 57343 < u) (h1 : u ≠ 92) (h2 : u ≠ 13) (h3 : u ≠ 10) : PcU (u8s u) u := by
  refine ⟨pc_raw u h hs h1 h2 h3, ?_⟩
  have := u8s_len u
  omega
theorem pcu_asc (u : Nat) (hr : rawA u = true) : PcU [(u : Int)] u := by
  have h1 := of_decide_eq_true hr
  have h2 := pcu_raw u (by omega) (by omega) (by omega) (by omega) (by omega)
  have e : u8s u = [(u : Int)] := by unfold u8s; rw [if_pos (by omega)]
  rw [e] at h2; exact h2
/-- what the switch leaves -/
def SwS (w0 wx : World) (v v9 : Value) (E R : List Int) (u : Nat) : Prop := ∃ D, PcU D u ∧ Two wx w0.heap.size v (E ++ D) v9 R ∧ Below w0.heap.size w0 wx
theorem SwS.intro {w0 wq wx : World} {ve v v9 : Value} {E D R : List Int} {u : Nat} (hp : PcU D u) (ho : OwnB wx w0.heap.size v (E ++ D)) (hm : Mv wq wx ve v) (ht : Two wq w0.heap.size ve E v9 R) (hb : Below w0.heap.size w0 wq) : SwS w0 wx v v9 E R u :=
  ⟨D, hp, ht.aMv ho hm, hb.trans (ht.aBelow hm hb.size)⟩
theorem and1 (a : Nat) (ha : a < 256) : ∃ A : Nat, (A = 0 ∨ A = 1) ∧ bits .and .u8 (a : Int) 1 = (A : Int) := by
  refine ⟨a % 2, by omega, ?_⟩
  rw [show (1 : Int) = ((1 : Nat) : Int) from rfl, u8_mask a 1 1 ha rfl (by omega)]
theorem and3 (a : Nat) (ha : a < 256) : ∃ A : Nat, A ≤ 3 ∧ bits .and .u8 (a : Int) 3 = (A : Int) := by
  refine ⟨a % 4, by omega, ?_⟩
  rw [show (3 : Int) = ((3 : Nat) : Int) from rfl, u8_mask a 2 3 ha rfl (by omega)]
theorem pc_sep9 : Pc [92, 226, 128, 169] [] := by have h := pc_sep 8233 (Or.inr rfl); simpa using h
theorem pc_sep8 : Pc [92, 226, 128, 168] [] := by have h := pc_sep 8232 (Or.inl rfl); simpa using h
theorem EnS.cont {w0 w1 : World} {U : List Int} {i b : Nat} {v1 v2 : Value} {E R D S : List Int} (hp : Pc D []) (hl : D.length ≤ 4) (hl2 : S.length ≤ 4) (he : Enc E (U.take i)) (h1 : E.length ≤ b) (h2 : R.length ≤ b) (ht : Two w1 w0.heap.size v1 (E ++ D) v2 (R ++ S)) (hb : Below w0.heap.size w0 w1) : EnS w0 w1 U i (b + 4) v1 v2 :=
  ⟨E ++ D, R ++ S, ht, by have := he.snoc hp; simpa using this, by simp; omega, by simp; omega, hb⟩
set_option maxRecDepth 1000000 in
/-- the frame at the head of a round -/
def fr7 (vu vm ve vr : Value) (i : Nat) (us : Nat → Value) : Act := ⟨#[vu, vm, .bool false, us 3, us 4, us 5, .string ⟨#[]⟩, .string ⟨#[]⟩, ve, vr, .int .i64 (i : Nat), us 11, us 12, us 13, us 14, us 15, us 16, us 17, us 18, us 19, us 20, us 21, us 22, us 23, us 24, us 25, us 26, us 27, us 28, us 29, us 30, us 31, us 32, us 33, us 34, us 35, us 36, us 37, us 38, us 39, us 40, us 41, us 42, us 43, us 44, us 45, us 46, us 47, us 48, us 49, us 50, us 51, us 52, us 53, us 54, us 55, us 56, us 57, us 58, us 59, us 60, us 61, us 62, us 63, us 64, us 65, us 66, us 67, us 68, us 69, us 70, us 71, us 72, us 73, us 74, us 75, us 76, us 77, us 78, us 79, us 80, us 81, us 82, us 83, us 84, us 85, us 86, us 87, us 88, us 89, us 90, us 91, us 92, us 93, us 94, us 95, us 96, us 97, us 98, us 99, us 100, us 101, us 102, us 103, us 104, us 105, us 106, us 107, us 108, us 109, us 110, us 111, us 112, us 113, us 114, us 115, us 116, us 117, us 118, us 119, us 120, us 121, us 122, us 123, us 124, us 125, us 126, us 127, us 128, us 129, us 130, us 131, us 132, us 133, us 134, us 135, us 136, us 137, us 138, us 139, us 140, us 141, us 142, us 143, us 144, us 145, us 146, us 147, us 148, us 149, us 150, us 151, us 152, us 153, us 154, us 155, us 156, us 157, us 158, us 159, us 160, us 161, us 162, us 163, us 164, us 165, us 166, us 167, us 168, us 169, us 170, us 171, us 172, us 173, us 174, us 175, us 176, us 177, us 178, us 179, us 180, us 181, us 182, us 183, us 184, us 185, us 186, us 187, us 188, us 189, us 190, us 191, us 192, us 193, us 194, us 195, us 196, us 197, us 198, us 199, us 200, us 201, us 202, us 203, us 204, us 205, us 206, us 207, us 208, us 209, us 210, us 211, us 212, us 213, us 214, us 215, us 216, us 217, us 218, us 219, us 220, us 221, us 222, us 223, us 224, us 225, us 226, us 227, us 228, us 229, us 230, us 231, us 232, us 233, us 234, us 235, us 236, us 237, us 238, us 239, us 240, us 241], []⟩
def WI7 (vu vm : Value) (w : World) (U : List Int) (N : Nat) (a : Act) (w' : World) : Prop := ∃ (ve vr : Value) (i : Nat), ∃ us : Nat → Value, (i ≤ N ∧ EnS w w' U i (15 * i) ve vr) ∧ a = fr7 vu vm ve vr i us
theorem WI7.intro {vu vm : Value} {w : World} {U : List Int} {N : Nat} {a : Act} {w' : World} (ve vr : Value) (i : Nat) (hi : i ≤ N) (hr : EnS w w' U i (15 * i) ve vr) (h : a = fr7 vu vm ve vr i (fun k => a.tmps.getD k undef)) : WI7 vu vm w U N a w' := ⟨ve, vr, i, _, ⟨hi, hr⟩, h⟩
def mu7 (N : Nat) (a : Act) (w' : World) : Nat := N - (intOf (a.tmps.getD 10 undef)).toNat
set_option maxRecDepth 1000000 in
set_option maxHeartbeats 16000000 in
theorem enF (w : World) (p q : Option Addr) (c1 c2 : Nat) (U Ms : List Int) (hU : Units w (.slice p U.length c1) U) (hM : Bytes w (.slice q Ms.length c2) Ms) (hUr : ∀ x ∈ U, 0 ≤ x ∧ x < 65536) (hMr : ∀ x ∈ Ms, 0 ≤ x ∧ x < 256) (lU : U.length ≤ 65536) (lM : Ms.length ≤ 65536) :
    Calls Tryf.prog 7 #[.slice p U.length c1, .slice q Ms.length c2, .bool false] w fun e w' => (∃ E R, e = .returned (.tuple #[.string (strOfNums E), .string (strOfNums R)]) ∧ Enc E U ∧ E.length ≤ 15 * U.length) ∧ Below w.heap.size w w' := by
  have HU := Lib.hid hU; have HM := Lib.hid hM; have HUR := Lib.hid hUr; have HMR := Lib.hid hMr
  obtain ⟨N, hN⟩ : ∃ N, U.length = N := ⟨_, rfl⟩
  obtain ⟨L, hL⟩ : ∃ L, Ms.length = L := ⟨_, rfl⟩
  have HN := Lib.hid hN; have HL := Lib.hid hL
  rw [hN] at lU ⊢
  rw [hL] at lM ⊢
  clear hU hM hUr hMr hN hL
  obtain ⟨i0, hin, hz0, hz1, hz2⟩ := info_parts infoB
  go_enter Tryf.func7, Tryf.ntmps7
  have l1 : (N : Int) * 4 = ((N * 4 : Nat) : Int) := by omega
  have l2 : i0.bytes * (N * 4) ≤ 281474976710656 := by rw [hz2]; omega
  have l3 : N * 4 ≤ maxLen := by unfold maxLen; omega
  have L1 := Lib.hid l1; have L2 := Lib.hid l2; have L3 := Lib.hid l3
  clear l1 l2 l3
  go_upto_region 2 with (at_make; refine @wpList_make_own Tryf.prog w _ _ _ _ _ rfl (.const (.int .i64 0)) (.tmp 21) 23 rfl w.heap.size 5 i0 (.int .u8 0) 1 Tryf.underlying23 hin hz0 hz1 .i64 .i64 ((N : Int) * 4) (N * 4) rfl rfl L1.out L2.out L3.out (Nat.le_refl _) ?_; intro wm hown1 hg1; have MK1 := Lib.hid (And.intro hown1 hg1); clear hown1 hg1)
  go_wp2_with (at_make; refine @wpList_make_own Tryf.prog wm _ _ _ _ _ rfl (.const (.int .i64 0)) (.tmp 25) 23 rfl w.heap.size 5 i0 (.int .u8 0) 1 Tryf.underlying23 hin hz0 hz1 .i64 .i64 ((N : Int) * 4) (N * 4) rfl rfl L1.out L2.out L3.out (MK1.out.2.size) ?_; intro wn hown2 hg2; have MK2 := Lib.hid (And.intro hown2 hg2); clear hown2 hg2)
  have hS0 : EnS w wn U 0 0 (.slice (some ⟨w.heap.size, 0, none⟩) 0 (N * 4)) (.slice (some ⟨wm.heap.size, 0, none⟩) 0 (N * 4)) := by
    have h1 : OwnB wm w.heap.size (.slice (some ⟨w.heap.size, 0, none⟩) 0 (N * 4)) [] := MK1.out.1
    have h2 : OwnB wn w.heap.size (.slice (some ⟨wm.heap.size, 0, none⟩) 0 (N * 4)) [] := MK2.out.1
    have hlt := h1.old w.heap.size rfl
    have b1 := below_grown MK1.out.2 w.heap.size (Nat.le_refl _) (fun k hk => by cases hk)
    have b2 := below_grown MK2.out.2 wm.heap.size (Nat.le_refl _) (fun k hk => by cases hk)
    refine ⟨[], [], ⟨h1.keep b2, h2, fun k hk e => ?_⟩, by simpa using Enc.nil, Nat.le_refl _, Nat.le_refl _, b1.trans (b2.mono b1.size)⟩
    simp [Value.ownBlock] at hk e
    omega
  have HS0 := Lib.hid hS0
  clear hS0 MK1 MK2
  refine wp_loop (WI7 (.slice p N c1) (.slice q L c2) w U N) (mu7 N) ?start ?round
  case start => exact WI7.intro _ _ 0 (Nat.zero_le _) HS0.out (by kernel_rfl)
  case round =>
    rintro a wr ⟨ve, vr, i, us, ⟨hi, hr⟩, rfl⟩
    have H := Lib.hid hr
    clear HS0 hr
    unfold fr7
    by_cases hlt : i < N
    case neg =>
      obtain rfl : i = N := by omega
      obtain ⟨E, R, ht, he, h1, h2, hb⟩ := H.out
      have HE := Lib.hid (show Enc E U by rw [← HN.out, List.take_length] at he; exact he)
      have HB := Lib.hid hb; have HL1 := Lib.hid h1
      have hcE := conv_bytes ht.a.bytes
      have hcR := conv_bytes ht.b.bytes
      have hcE2 := conv_bytes (w := wr.drew) ht.a.bytes
      have hcR2 := conv_bytes (w := wr.drew) ht.b.bytes
      clear ht he h1 h2 hb
      go_wp2_with fail
      go_region
      all_goals
        go_wp2_with fail
        go_ret2
        exact ⟨⟨E, R, rfl, HE.out, HL1.out⟩, HB.out.drew⟩
    have hiU : i < U.length := by rw [HN.out]; exact hlt
    obtain ⟨u, hu, hu6⟩ : ∃ u : Nat, U.getD i 0 = (u : Int) ∧ u < 65536 := by
      have h1 := HUR.out _ (List.getElem_mem hiU)
      refine ⟨(U.getD i 0).toNat, ?_, ?_⟩
      · simp only [List.getD, List.getElem?_eq_getElem hiU, Option.getD_some]; omega
      · simp only [List.getD, List.getElem?_eq_getElem hiU, Option.getD_some]; omega
    have HUI := Lib.hid hu
    have HB : Hid (Below w.heap.size w wr) := Lib.hid (by obtain ⟨E, R, _, _, _, _, hb⟩ := H.out; exact hb)
    have hUr : Units wr (.slice p N c1) U := by have h := HU.out; rw [HN.out] at h; exact h.keep HB.out
    obtain ⟨p', c', e, hcc, hcell⟩ := hUr
    obtain ⟨rfl, rfl⟩ : p' = p ∧ c' = c1 := by injection e with e1 e2 e3; exact ⟨e1.symm, e3.symm⟩
    obtain ⟨pa, rfl, hcu⟩ := hcell i hiU
    rw [hu] at hcu
    clear e hcell hu
    have HMb : Bytes wr (.slice q L c2) Ms := by have h := HM.out; rw [HL.out] at h; exact h.keep HB.out
    have HMB := Lib.hid HMb
    clear HMb
    go_upto_if 39 with fail
    go_cut [12] (fun v wx => ∃ m : Nat, m < 256 ∧ v = .int .u8 (m : Nat) ∧ wr = wx)
    case first =>
      by_cases hL0 : L = 0
      · subst hL0
        go_wp2_with fail
        go_meet
        exact ⟨0, by omega, rfl, rfl⟩
      · have hL1 : (0 : Int) < (L : Int) := by omega
        obtain ⟨J, hJ⟩ : ∃ J, i % L = J := ⟨_, rfl⟩
        have hJL : J < L := by rw [← hJ]; exact Nat.mod_lt _ (by omega)
        have hJr : (i : Int) % (L : Int) = (J : Int) := by rw [← hJ]; simp
        have hJM : J < Ms.length := by rw [HL.out]; exact hJL
        obtain ⟨q', c'', e, hcc2, hcell⟩ := HMB.out
        obtain ⟨rfl, rfl⟩ : q' = q ∧ c'' = c2 := by injection e with e1 e2 e3; exact ⟨e1.symm, e3.symm⟩
        obtain ⟨qa, rfl, hcm⟩ := hcell J hJM
        obtain ⟨m, hm, hm2⟩ : ∃ m : Nat, Ms.getD J 0 = (m : Int) ∧ m < 256 := by
          have h1 := HMR.out _ (List.getElem_mem hJM)
          refine ⟨(Ms.getD J 0).toNat, ?_, ?_⟩
          · simp only [List.getD, List.getElem?_eq_getElem hJM, Option.getD_some]; omega
          · simp only [List.getD, List.getElem?_eq_getElem hJM, Option.getD_some]; omega
        rw [hm] at hcm
        clear e hcell hm hJ hJM hL0
        go_wp2_with fail
        go_meet
        exact ⟨m, hm2, rfl, rfl⟩
    case rest =>
      obtain ⟨m, hm, rfl, rfl⟩ := hcut
      obtain ⟨UP, hUP⟩ : ∃ b : Bool, (bits .and .u8 (m : Int) 8 != 0) = b := ⟨_, rfl⟩
      obtain ⟨C6, hC6⟩ : ∃ b : Bool, (bits .and .u8 (m : Int) 64 != 0) = b := ⟨_, rfl⟩
      obtain ⟨X, hX⟩ : ∃ X : Int, bits .and .u8 (m : Int) 7 = X := ⟨_, rfl⟩
      obtain ⟨ZZ, hZZ, hZ⟩ := and3 (m / 16) (by omega)
      rw [show ((m / 16 : Nat) : Int) = (m : Int) / 16 by omega] at hZ
      go_upto_if 52 with fail
      go_cut [8, 9] (fun v8 v9 wx => Hid (EnS w wx U i (15 * i + 4) v8 v9))
      case first =>
        skip
        cases C6 with
        | false =>
          go_wp2_with fail
          go_meet
          obtain ⟨E, R, ht, he, h1, h2, hb⟩ := H.out
          exact Lib.hid ⟨E, R, ht, he, by omega, by omega, hb⟩
        | true =>
          obtain ⟨A, hA, hA2⟩ := and1 (m / 128) (by omega)
          obtain ⟨B, hB, hB2⟩ := and1 (m / 32) (by omega)
          rw [show ((m / 128 : Nat) : Int) = (m : Int) / 128 by omega] at hA2
          rw [show ((m / 32 : Nat) : Int) = (m : Int) / 32 by omega] at hB2
          obtain ⟨E, R, ht, he, h1, h2, hb⟩ := H.out
          have HT := Lib.hid ht; have HE := Lib.hid he; have H1 := Lib.hid (And.intro h1 h2); have HBB := Lib.hid hb
          have hl1 : E.length ≤ 983040 := by omega
          have hl2 : R.length ≤ 983040 := by omega
          clear ht he h1 h2 hb
          rcases hA with rfl | rfl
          · rcases hB with rfl | rfl
            · as_aux_lemma =>
              go_wp2_with (first
                | (at_builtin; refine wp_appL rfl (.tmp 77) (.tmp 78) rfl w.heap.size ve E [92, 10] rfl HT.out.a rfl _ rfl HBB.out.size (by simp; omega) ?_; intro v1 w1 o1 m1; have O1 := Lib.hid o1; have M1 := Lib.hid m1; clear o1 m1; have T1 := Lib.hid (HT.out.aMv O1.out M1.out); have K1 := Lib.hid (HBB.out.trans ((HT.out.aBelow M1.out HBB.out.size).mono (Nat.le_refl _))))
                | (at_builtin; refine wp_appL rfl (.tmp 80) (.tmp 81) rfl w.heap.size vr R [92, 10] rfl T1.out.b rfl _ rfl K1.out.size (by simp; omega) ?_; intro v2 w2 o2 m2; have O2 := Lib.hid o2; have M2 := Lib.hid m2; clear o2 m2; have T2 := Lib.hid (T1.out.bMv O2.out M2.out); have K2 := Lib.hid (K1.out.trans ((T1.out.bBelow M2.out K1.out.size).mono (Nat.le_refl _)))))
              go_meet
              exact Lib.hid (EnS.cont pc_lf (by simp) (by simp) HE.out H1.out.1 H1.out.2 T2.out K2.out)
            · as_aux_lemma =>
              go_wp2_with (first
                | (at_builtin; refine wp_appL rfl (.tmp 85) (.tmp 86) rfl w.heap.size ve E [92, 13] rfl HT.out.a rfl _ rfl HBB.out.size (by simp; omega) ?_; intro v1 w1 o1 m1; have O1 := Lib.hid o1; have M1 := Lib.hid m1; clear o1 m1; have T1 := Lib.hid (HT.out.aMv O1.out M1.out); have K1 := Lib.hid (HBB.out.trans ((HT.out.aBelow M1.out HBB.out.size).mono (Nat.le_refl _))))
                | (at_builtin; refine wp_appL rfl (.tmp 88) (.tmp 89) rfl w.heap.size vr R [92, 10] rfl T1.out.b rfl _ rfl K1.out.size (by simp; omega) ?_; intro v2 w2 o2 m2; have O2 := Lib.hid o2; have M2 := Lib.hid m2; clear o2 m2; have T2 := Lib.hid (T1.out.bMv O2.out M2.out); have K2 := Lib.hid (K1.out.trans ((T1.out.bBelow M2.out K1.out.size).mono (Nat.le_refl _)))))
              go_meet
              exact Lib.hid (EnS.cont pc_cr (by simp) (by simp) HE.out H1.out.1 H1.out.2 T2.out K2.out)
          · rcases hB with rfl | rfl
            · as_aux_lemma =>
              go_wp2_with (first
                | (at_builtin; refine wp_appL rfl (.tmp 93) (.tmp 94) rfl w.heap.size ve E [92, 13, 10] rfl HT.out.a rfl _ rfl HBB.out.size (by simp; omega) ?_; intro v1 w1 o1 m1; have O1 := Lib.hid o1; have M1 := Lib.hid m1; clear o1 m1; have T1 := Lib.hid (HT.out.aMv O1.out M1.out); have K1 := Lib.hid (HBB.out.trans ((HT.out.aBelow M1.out HBB.out.size).mono (Nat.le_refl _))))
                | (at_builtin; refine wp_appL rfl (.tmp 96) (.tmp 97) rfl w.heap.size vr R [92, 10] rfl T1.out.b rfl _ rfl K1.out.size (by simp; omega) ?_; intro v2 w2 o2 m2; have O2 := Lib.hid o2; have M2 := Lib.hid m2; clear o2 m2; have T2 := Lib.hid (T1.out.bMv O2.out M2.out); have K2 := Lib.hid (K1.out.trans ((T1.out.bBelow M2.out K1.out.size).mono (Nat.le_refl _)))))
              go_meet
              exact Lib.hid (EnS.cont pc_crlf (by simp) (by simp) HE.out H1.out.1 H1.out.2 T2.out K2.out)
            · cases UP with
              | true =>
                as_aux_lemma =>
                go_wp2_with (first
                  | (at_builtin; refine wp_appL rfl (.tmp 63) (.tmp 64) rfl w.heap.size ve E [92, 226, 128, 169] rfl HT.out.a rfl _ rfl HBB.out.size (by simp; omega) ?_; intro v1 w1 o1 m1; have O1 := Lib.hid o1; have M1 := Lib.hid m1; clear o1 m1; have T1 := Lib.hid (HT.out.aMv O1.out M1.out); have K1 := Lib.hid (HBB.out.trans ((HT.out.aBelow M1.out HBB.out.size).mono (Nat.le_refl _))))
                  | (at_builtin; refine wp_appL rfl (.tmp 66) (.tmp 67) rfl w.heap.size vr R [92, 226, 128, 169] rfl T1.out.b rfl _ rfl K1.out.size (by simp; omega) ?_; intro v2 w2 o2 m2; have O2 := Lib.hid o2; have M2 := Lib.hid m2; clear o2 m2; have T2 := Lib.hid (T1.out.bMv O2.out M2.out); have K2 := Lib.hid (K1.out.trans ((T1.out.bBelow M2.out K1.out.size).mono (Nat.le_refl _)))))
                go_meet
                exact Lib.hid (EnS.cont pc_sep9 (by simp) (by simp) HE.out H1.out.1 H1.out.2 T2.out K2.out)
              | false =>
                as_aux_lemma =>
                go_wp2_with (first
                  | (at_builtin; refine wp_appL rfl (.tmp 69) (.tmp 70) rfl w.heap.size ve E [92, 226, 128, 168] rfl HT.out.a rfl _ rfl HBB.out.size (by simp; omega) ?_; intro v1 w1 o1 m1; have O1 := Lib.hid o1; have M1 := Lib.hid m1; clear o1 m1; have T1 := Lib.hid (HT.out.aMv O1.out M1.out); have K1 := Lib.hid (HBB.out.trans ((HT.out.aBelow M1.out HBB.out.size).mono (Nat.le_refl _))))
                  | (at_builtin; refine wp_appL rfl (.tmp 72) (.tmp 73) rfl w.heap.size vr R [92, 226, 128, 168] rfl T1.out.b rfl _ rfl K1.out.size (by simp; omega) ?_; intro v2 w2 o2 m2; have O2 := Lib.hid o2; have M2 := Lib.hid m2; clear o2 m2; have T2 := Lib.hid (T1.out.bMv O2.out M2.out); have K2 := Lib.hid (K1.out.trans ((T1.out.bBelow M2.out K1.out.size).mono (Nat.le_refl _)))))
                go_meet
                exact Lib.hid (EnS.cont pc_sep8 (by simp) (by simp) HE.out H1.out.1 H1.out.2 T2.out K2.out)
      case rest =>
        obtain ⟨E, R, ht, he, h1, h2, hb⟩ := hcut.out
        clear hcut H hC6
        have HE := Lib.hid he; have HLR := Lib.hid h2
        obtain ⟨pe, ce, rfl, _, _⟩ := ht.a.bytes
        obtain ⟨NE, hNE⟩ : ∃ NE, E.length = NE := ⟨_, rfl⟩
        have hl1 : E.length ≤ 983044 := by omega
        have hne : NE ≤ 983044 := by omega
        have HLE := Lib.hid h1
        have HL0 := Lib.hid hl1
        rw [hNE] at ht ⊢
        have HNE := Lib.hid hNE
        have HT := Lib.hid ht; have HBB := Lib.hid hb
        clear he h2 h1 hNE ht hb hl1
        go_upto_block 3 with fail
        go_cut [8, 9] (fun v v9 wx => Hid (SwS w wx v v9 E R u))
        case first =>
          by_cases x1 : X = 1
          · subst x1
            by_cases hx : u < 256
            · as_aux_lemma =>
              have hx2 : (u : Int) < 256 := by omega
              have B0 := Lib.hid HBB.out.size
              go_wp2_with (at_builtin; refine wp_appL rfl (.tmp 128) (.tmp 129) rfl w.heap.size (.slice pe NE ce) E [92, 120] rfl HT.out.a rfl _ rfl HBB.out.size (by have h := HL0.out; simp; omega) ?_; intro v1 w1 o1 m1; have O1 := Lib.hid o1; have M1 := Lib.hid m1; have B1 := Lib.hid (Nat.le_trans HBB.out.size m1.g.size); clear o1 m1)
              refine (hfF _ w.heap.size _ (E ++ [92, 120]) u 2 UP hu6 (by omega) O1.out B1.out (by have h := HL0.out; simp; omega)).mono ?_
              rintro e w2 ⟨v2, rfl, o2, m2⟩
              have O2 := Lib.hid o2; have M2 := Lib.hid m2; have B2 := Lib.hid (Nat.le_trans B1.out m2.g.size)
              clear o2 m2
              dsimp only
              go_wp2_with fail
              go_meet
              exact Lib.hid (SwS.intro (D := [92, 120] ++ hexN UP u 2) (pcu_x UP u hx) (by have h := O2.out; simpa using h) (M1.out.trans M2.out) HT.out HBB.out)
            · as_aux_lemma =>
              have hx2 : ¬ (u : Int) < 256 := by omega
              have B0 := Lib.hid HBB.out.size
              go_wp2_with (at_builtin; refine wp_appL rfl (.tmp 135) (.tmp 136) rfl w.heap.size (.slice pe NE ce) E [92, 117, 123] rfl HT.out.a rfl _ rfl HBB.out.size (by have h := HL0.out; simp; omega) ?_; intro v1 w1 o1 m1; have O1 := Lib.hid o1; have M1 := Lib.hid m1; have B1 := Lib.hid (Nat.le_trans HBB.out.size m1.g.size); clear o1 m1)
              refine (hlF u hu6 _).mono ?_
              rintro e wl ⟨n, rfl, n1, n4, nu, rfl⟩
              have HN3 := Lib.hid (And.intro n1 (And.intro n4 nu))
              clear nu
              dsimp only
              go_wp2_with fail
              refine (hfF _ w.heap.size _ (E ++ [92, 117, 123]) u n UP hu6 n4 O1.out B1.out (by have h := HL0.out; simp; omega)).mono ?_
              rintro e w2 ⟨v2, rfl, o2, m2⟩
              have O2 := Lib.hid o2; have M2 := Lib.hid m2; have B2 := Lib.hid (Nat.le_trans B1.out m2.g.size)
              clear o2 m2
              dsimp only
              have hl3 : (E ++ [92, 117, 123] ++ hexN UP u n).length + 1 ≤ 4194304 := by have h := HL0.out; simp [hexN_len]; omega
              have HL3 := Lib.hid hl3
              clear hl3
              go_wp2_with (at_builtin; refine wp_appL rfl (.tmp 144) (.tmp 145) rfl w.heap.size v2 (E ++ [92, 117, 123] ++ hexN UP u n) [125] rfl O2.out rfl _ rfl B2.out HL3.out ?_; intro v3 w3 o3 m3; have O3 := Lib.hid o3; have M3 := Lib.hid m3; clear o3 m3)
              go_meet
              exact Lib.hid (SwS.intro (D := [92, 117, 123] ++ ((List.replicate 0 48 ++ hexN UP u n) ++ [125])) (pcu_b UP u n 0 hu6 HN3.out.1 HN3.out.2.1 HN3.out.2.2 (by omega)) (by have h := O3.out; simpa using h) ((M1.out.trans M2.out).trans M3.out) HT.out HBB.out)
          have q1 : (X == 1) = false := by rw [beq_eq_false_iff_ne]; exact x1
          clear x1
          by_cases x2 : X = 2
          · subst x2
            as_aux_lemma =>
            have B0 := Lib.hid HBB.out.size
            go_wp2_with fail
            refine (u4F _ w.heap.size (.slice pe NE ce) E u UP hu6 HT.out.a HBB.out.size (by have h := HL0.out; omega)).mono ?_
            rintro e w1 ⟨v1, rfl, o1, m1⟩
            have O1 := Lib.hid o1; have M1 := Lib.hid m1; have B1 := Lib.hid (Nat.le_trans B0.out m1.g.size)
            clear o1 m1
            dsimp only
            go_wp2_with fail
            go_meet
            exact Lib.hid (SwS.intro (D := [92, 117] ++ hexN UP u 4) (pcu_u UP u hu6) (by have h := O1.out; simpa using h) (M1.out) HT.out HBB.out)
          have q2 : (X == 2) = false := by rw [beq_eq_false_iff_ne]; exact x2
          clear x2
          by_cases x3 : X = 3
          · subst x3
            as_aux_lemma =>
            have B0 := Lib.hid HBB.out.size
            have hzw : IntKind.i64.wrap (ZZ : Int) = (ZZ : Int) := by rw [IntKind.wrap_i64]; omega
            go_wp2_with (at_builtin; refine wp_appL rfl (.tmp 159) (.tmp 160) rfl w.heap.size (.slice pe NE ce) E [92, 117, 123] rfl HT.out.a rfl _ rfl HBB.out.size (by have h := HL0.out; simp; omega) ?_; intro v1 w1 o1 m1; have O1 := Lib.hid o1; have M1 := Lib.hid m1; have B1 := Lib.hid (Nat.le_trans HBB.out.size m1.g.size); clear o1 m1)
            clear hZ
            go_loopg [8, 17] ZZ (fun n va vz wx => ∃ z : Nat, vz = .int .i64 (z : Nat) ∧ ZZ - z = n ∧ z ≤ ZZ ∧ Hid (OwnB wx w.heap.size va (E ++ [92, 117, 123] ++ List.replicate z 48) ∧ Mv wc wx (.slice pe NE ce) va))
            case atStart => exact ⟨0, rfl, by omega, by omega, Lib.hid ⟨by have h := O1.out; simpa using h, M1.out⟩⟩
            case round =>
              obtain ⟨z, rfl, rfl, hz, HV⟩ := hrel
              have HV1 := Lib.hid (Nat.le_trans HBB.out.size HV.out.2.g.size)
              have HV2 := Lib.hid (show (E ++ [92, 117, 123] ++ List.replicate z 48).length ≤ 1048590 by have h := HL0.out; simp; omega)
              by_cases hzl : z < ZZ
              · go_wp2_with (at_builtin; refine wp_appL rfl (.tmp 167) (.tmp 168) rfl w.heap.size _ (E ++ [92, 117, 123] ++ List.replicate z 48) [48] rfl HV.out.1 rfl _ rfl HV1.out (by have h := HV2.out; simp only [List.length_cons, List.length_nil]; omega) ?_; intro v5 w5 o5 m5; have O5 := Lib.hid o5; have M5 := Lib.hid m5; clear o5 m5)
                go_roundg (ZZ - (z + 1))
                case measure => omega
                case rel => exact ⟨z + 1, by simp, rfl, by omega, Lib.hid ⟨by have h := O5.out; rw [List.replicate_succ']; simpa using h, HV.out.2.trans M5.out⟩⟩
              · obtain rfl : z = ZZ := by omega
                go_wp2_with fail
                refine (hlF u hu6 _).mono ?_
                rintro e wl ⟨n, rfl, n1, n4, nu, rfl⟩
                have HN3 := Lib.hid (And.intro n1 (And.intro n4 nu))
                clear nu
                dsimp only
                go_wp2_with fail
                refine (hfF _ w.heap.size _ (E ++ [92, 117, 123] ++ List.replicate z 48) u n UP hu6 n4 HV.out.1 HV1.out (Nat.le_trans HV2.out (by omega))).mono ?_
                rintro e w2 ⟨v2, rfl, o2, m2⟩
                have O2 := Lib.hid o2; have M2 := Lib.hid m2; have B2 := Lib.hid (Nat.le_trans HV1.out m2.g.size)
                clear o2 m2
                dsimp only
                have HL3 := Lib.hid (show (E ++ [92, 117, 123] ++ List.replicate z 48 ++ hexN UP u n).length + 1 ≤ 4194304 by have h := HL0.out; simp [hexN_len]; omega)
                go_wp2_with (at_builtin; refine wp_appL rfl (.tmp 176) (.tmp 177) rfl w.heap.size v2 (E ++ [92, 117, 123] ++ List.replicate z 48 ++ hexN UP u n) [125] rfl O2.out rfl _ rfl B2.out HL3.out ?_; intro v3 w3 o3 m3; have O3 := Lib.hid o3; have M3 := Lib.hid m3; clear o3 m3)
                go_meet
                exact Lib.hid (SwS.intro (D := [92, 117, 123] ++ ((List.replicate z 48 ++ hexN UP u n) ++ [125])) (pcu_b UP u n z hu6 HN3.out.1 HN3.out.2.1 HN3.out.2.2 (by omega)) (by have h := O3.out; simpa using h) ((HV.out.2.trans M2.out).trans M3.out) HT.out HBB.out)
          have q3 : (X == 3) = false := by rw [beq_eq_false_iff_ne]; exact x3
          clear x3
          by_cases x4 : X = 4
          · subst x4
            go_upto_block 6 with fail
            go_cut [18] (fun v wx => ∃ c : Nat, v = .int .u8 (c : Nat) ∧ (c = 0 ∨ esc1 c (u : Int)) ∧ c < 256 ∧ wc = wx)
            case first =>
              as_aux_lemma =>
              by_cases e8 : u = 8
              · subst e8
                go_wp2_with fail
                go_meet
                exact ⟨98, rfl, Or.inr (by unfold esc1; omega), by omega, rfl⟩
              have n8 := ne_b u 8 (by omega)
              by_cases e9 : u = 9
              · subst e9
                go_wp2_with fail
                go_meet
                exact ⟨116, rfl, Or.inr (by unfold esc1; omega), by omega, rfl⟩
              have n9 := ne_b u 9 (by omega)
              by_cases e10 : u = 10
              · subst e10
                go_wp2_with fail
                go_meet
                exact ⟨110, rfl, Or.inr (by unfold esc1; omega), by omega, rfl⟩
              have n10 := ne_b u 10 (by omega)
              by_cases e11 : u = 11
              · subst e11
                go_wp2_with fail
                go_meet
                exact ⟨118, rfl, Or.inr (by unfold esc1; omega), by omega, rfl⟩
              have n11 := ne_b u 11 (by omega)
              by_cases e12 : u = 12
              · subst e12
                go_wp2_with fail
                go_meet
                exact ⟨102, rfl, Or.inr (by unfold esc1; omega), by omega, rfl⟩
              have n12 := ne_b u 12 (by omega)
              by_cases e13 : u = 13
              · subst e13
                go_wp2_with fail
                go_meet
                exact ⟨114, rfl, Or.inr (by unfold esc1; omega), by omega, rfl⟩
              have n13 := ne_b u 13 (by omega)
              clear e8 e9 e10 e11 e12 e13
              go_wp2_with fail
              go_meet
              exact ⟨0, rfl, Or.inl rfl, by omega, rfl⟩
            case rest =>
              obtain ⟨c, rfl, hc, hc6, rfl⟩ := hcut
              have HC := Lib.hid hc
              by_cases c0 : c = 0
              · subst c0
                clear hc
                have HID := Lib.hid (fun w => idF u w)
                obtain ⟨ib, hib⟩ : ∃ b, idA u = b := ⟨_, rfl⟩
                have HIB := Lib.hid hib
                go_wp2_with fail
                refine (HID.out _).mono ?_
                rintro e wl ⟨rfl, rfl⟩
                rw [HIB.out]
                dsimp only
                cases ib with
                | true =>
                  as_aux_lemma =>
                  go_wp2_with (at_builtin; refine wp_appL rfl (.tmp 202) (.tmp 203) rfl w.heap.size (.slice pe NE ce) E [92] rfl HT.out.a rfl _ rfl HBB.out.size (by have h := HL0.out; simp; omega) ?_; intro v1 w1 o1 m1; have O1 := Lib.hid o1; have M1 := Lib.hid m1; have B1 := Lib.hid (Nat.le_trans HBB.out.size m1.g.size); clear o1 m1)
                  refine (u8F _ w.heap.size _ (E ++ [92]) u hu6 O1.out B1.out (by have h := HL0.out; simp; omega)).mono ?_
                  rintro e w2 ⟨v2, rfl, o2, m2⟩
                  have O2 := Lib.hid o2; have M2 := Lib.hid m2; have B2 := Lib.hid (Nat.le_trans B1.out m2.g.size)
                  clear o2 m2
                  dsimp only
                  go_wp2_with fail
                  go_meet
                  exact Lib.hid (SwS.intro (D := [92] ++ u8s u) (pcu_id u hu6 HIB.out) (by have h := O2.out; simpa using h) (M1.out.trans M2.out) HT.out HBB.out)
                | false =>
                  as_aux_lemma =>
                  have B0 := Lib.hid HBB.out.size
                  go_wp2_with fail
                  refine (u4F _ w.heap.size (.slice pe NE ce) E u UP hu6 HT.out.a HBB.out.size (by have h := HL0.out; omega)).mono ?_
                  rintro e w1 ⟨v1, rfl, o1, m1⟩
                  have O1 := Lib.hid o1; have M1 := Lib.hid m1; have B1 := Lib.hid (Nat.le_trans B0.out m1.g.size)
                  clear o1 m1
                  dsimp only
                  go_wp2_with fail
                  go_meet
                  exact Lib.hid (SwS.intro (D := [92, 117] ++ hexN UP u 4) (pcu_u UP u hu6) (by have h := O1.out; simpa using h) (M1.out) HT.out HBB.out)
              · have hne0 : ((c : Int) != 0) = true := by simp; omega
                have HC1 := Lib.hid (show esc1 c (u : Int) by rcases hc with h | h; exact absurd h c0; exact h)
                clear hc c0
                as_aux_lemma =>
                go_wp2_with (at_builtin; refine wp_appL rfl (.tmp 196) (.tmp 198) rfl w.heap.size (.slice pe NE ce) E [92, (c : Int)] rfl HT.out.a rfl _ rfl HBB.out.size (by have h := HL0.out; simp; omega) ?_; intro v1 w1 o1 m1; have O1 := Lib.hid o1; have M1 := Lib.hid m1; have B1 := Lib.hid (Nat.le_trans HBB.out.size m1.g.size); clear o1 m1)
                go_meet
                exact Lib.hid (SwS.intro (D := [92, (c : Int)]) (pcu_e c u HC1.out) (by have h := O1.out; simpa using h) (M1.out) HT.out HBB.out)
          have q4 : (X == 4) = false := by rw [beq_eq_false_iff_ne]; exact x4
          clear x4
          by_cases x5 : X = 5
          · subst x5
            as_aux_lemma =>
            have B0 := Lib.hid HBB.out.size
            go_wp2_with fail
            refine (u4F _ w.heap.size (.slice pe NE ce) E u UP hu6 HT.out.a HBB.out.size (by have h := HL0.out; omega)).mono ?_
            rintro e w1 ⟨v1, rfl, o1, m1⟩
            have O1 := Lib.hid o1; have M1 := Lib.hid m1; have B1 := Lib.hid (Nat.le_trans B0.out m1.g.size)
            clear o1 m1
            dsimp only
            go_wp2_with fail
            go_meet
            exact Lib.hid (SwS.intro (D := [92, 117] ++ hexN UP u 4) (pcu_u UP u hu6) (by have h := O1.out; simpa using h) (M1.out) HT.out HBB.out)
          have q5 : (X == 5) = false := by rw [beq_eq_false_iff_ne]; exact x5
          clear x5
          have HRA := Lib.hid (fun w => raF u w)
          obtain ⟨rb, hrb⟩ : ∃ b, rawA u = b := ⟨_, rfl⟩
          have HRB := Lib.hid hrb
          go_wp2_with fail
          refine (HRA.out _).mono ?_
          rintro e wl ⟨rfl, rfl⟩
          rw [HRB.out]
          dsimp only
          cases rb with
          | true =>
            as_aux_lemma =>
            have hwu : IntKind.u8.wrap (u : Int) = (u : Int) := by have h := of_decide_eq_true HRB.out; rw [IntKind.wrap_u8]; omega
            go_wp2_with (at_builtin; refine wp_appL rfl (.tmp 105) (.tmp 108) rfl w.heap.size (.slice pe NE ce) E [(u : Int)] rfl HT.out.a rfl _ rfl HBB.out.size (by have h := HL0.out; simp; omega) ?_; intro v1 w1 o1 m1; have O1 := Lib.hid o1; have M1 := Lib.hid m1; have B1 := Lib.hid (Nat.le_trans HBB.out.size m1.g.size); clear o1 m1)
            go_meet
            exact Lib.hid (SwS.intro (D := [(u : Int)]) (pcu_asc u HRB.out) (by have h := O1.out; simpa using h) (M1.out) HT.out HBB.out)
          | false =>
            by_cases h128 : 128 ≤ u
            · have i128 : (128 : Int) ≤ (u : Int) := by omega
              have HSU := Lib.hid (fun w => suF u w)
              obtain ⟨sb, hsb⟩ : ∃ b, decide (55296 ≤ u ∧ u ≤ 57343) = b := ⟨_, rfl⟩
              have HSB := Lib.hid hsb
              go_wp2_with fail
              refine (HSU.out _).mono ?_
              rintro e wl ⟨rfl, rfl⟩
              rw [HSB.out]
              dsimp only
              cases sb with
              | true =>
                as_aux_lemma =>
                have B0 := Lib.hid HBB.out.size
                go_wp2_with fail
                refine (u4F _ w.heap.size (.slice pe NE ce) E u UP hu6 HT.out.a HBB.out.size (by have h := HL0.out; omega)).mono ?_
                rintro e w1 ⟨v1, rfl, o1, m1⟩
                have O1 := Lib.hid o1; have M1 := Lib.hid m1; have B1 := Lib.hid (Nat.le_trans B0.out m1.g.size)
                clear o1 m1
                dsimp only
                go_wp2_with fail
                go_meet
                exact Lib.hid (SwS.intro (D := [92, 117] ++ hexN UP u 4) (pcu_u UP u hu6) (by have h := O1.out; simpa using h) (M1.out) HT.out HBB.out)
              | false =>
                as_aux_lemma =>
                have B0 := Lib.hid HBB.out.size
                go_wp2_with fail
                refine (u8F _ w.heap.size (.slice pe NE ce) E u hu6 HT.out.a HBB.out.size (by have h := HL0.out; omega)).mono ?_
                rintro e w1 ⟨v1, rfl, o1, m1⟩
                have O1 := Lib.hid o1; have M1 := Lib.hid m1; have B1 := Lib.hid (Nat.le_trans B0.out m1.g.size)
                clear o1 m1
                dsimp only
                go_wp2_with fail
                go_meet
                exact Lib.hid (SwS.intro (D := u8s u) (pcu_raw u hu6 (by have h := of_decide_eq_false HSB.out; omega) (by omega) (by omega) (by omega)) (by have h := O1.out; simpa using h) (M1.out) HT.out HBB.out)
            · have i128 : ¬ (128 : Int) ≤ (u : Int) := by omega
              as_aux_lemma =>
              have B0 := Lib.hid HBB.out.size
              go_wp2_with fail
              refine (u4F _ w.heap.size (.slice pe NE ce) E u UP hu6 HT.out.a HBB.out.size (by have h := HL0.out; omega)).mono ?_
              rintro e w1 ⟨v1, rfl, o1, m1⟩
              have O1 := Lib.hid o1; have M1 := Lib.hid m1; have B1 := Lib.hid (Nat.le_trans B0.out m1.g.size)
              clear o1 m1
              dsimp only
              go_wp2_with fail
              go_meet
              exact Lib.hid (SwS.intro (D := [92, 117] ++ hexN UP u 4) (pcu_u UP u hu6) (by have h := O1.out; simpa using h) (M1.out) HT.out HBB.out)
        case rest =>
          as_aux_lemma =>
          obtain ⟨D, hp, ht2, hb2⟩ := hcut.out
          have ho := ht2.a
          have HP := Lib.hid hp
          have HT2 := Lib.hid ht2
          have HB2 := Lib.hid hb2
          clear hcut hX hZ hp ht2 hb2
          obtain ⟨p3, c3, rfl, hc3, hcells⟩ := ho.bytes
          obtain ⟨ND, hND⟩ : ∃ ND, D.length = ND := ⟨_, rfl⟩
          have hD0 : 0 < ND := by rw [← hND]; exact List.length_pos_iff.2 HP.out.1.1
          have hlen : (E ++ D).length = NE + ND := by rw [List.length_append, HNE.out, hND]
          obtain ⟨a3, rfl, _⟩ := hcells 0 (by omega)
          have hgD : ∀ j, j < D.length → wc.cell? ((a3.add NE).add j) = some (.int .u8 (D.getD j 0)) := by
            intro j hj
            obtain ⟨a', ha', hc'⟩ := hcells (NE + j) (by omega)
            injection ha' with ha'
            subst ha'
            rw [show ((a3.add NE).add j) = a3.add (NE + j) from addr_add a3 NE j, hc']
            congr 2
            rw [← HNE.out]
            simp only [List.getD]
            rw [List.getElem?_append_right (by omega)]
            simp
          rw [hlen] at hc3
          have h3 := HT2.out
          rw [hlen] at h3
          have HT3 := Lib.hid h3
          clear h3
          have HG := Lib.hid hgD; have HND := Lib.hid hND
          obtain ⟨I, hI⟩ : ∃ I, i + 1 = I := ⟨_, rfl⟩
          have hI' : (i : Int) + 1 = (I : Int) := by omega
          have HLD := Lib.hid (show R.length + D.length ≤ 4194304 by have h1 := HLR.out; have h2 := HP.out.2; omega)
          rw [hlen]
          clear hgD hND hlen hcells ho HT2
          go_wp2_with (at_builtin; go_loud (refine wp_appM rfl (.tmp 233) (.tmp 236) rfl w.heap.size _ R D rfl HT3.out.b (a3.add NE) ND _ HND.out rfl HG.out HB2.out.size HLD.out ?_); intro v9 w9 o9 m9; have O9 := Lib.hid o9; have M9 := Lib.hid m9; clear o9 m9)
          refine ⟨WI7.intro _ _ I (by omega) ⟨E ++ D, R ++ D, HT3.out.bMv O9.out M9.out, ?_, ?_, ?_, HB2.out.trans (HT3.out.bBelow M9.out HB2.out.size)⟩ (by kernel_rfl), ?_⟩
          · have h := HE.out.snoc HP.out.1
            rw [← hI, List.take_add_one, List.getElem?_eq_getElem hiU]
            have h2 := HUI.out
            simp only [List.getD, List.getElem?_eq_getElem hiU, Option.getD_some] at h2
            rw [h2]; exact h
          · have h1 := HLE.out; have h2 := HP.out.2; simp; omega
          · have h1 := HLR.out; have h2 := HP.out.2; simp; omega
          · simp [mu7, intOf]; omega
end Go.Proofs.YtemneajjdbbgoaaFmt
