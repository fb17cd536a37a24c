/-
  The walk of FnDecodeEscapesPlainTextNormalizesNewlines.
-/
import Derived.Test.YtcnembabenlheaaDoorT2
import Derived.Test.YtcnembabenlheaaDoorZ7
import Derived.Deep.QuietTactic
namespace Go.Proofs.YtcnembabenlheaaDoor
open Go.ChangeShapes Go.WideShapes Go.ChangeAt Go.RowKit
open Go.Lib (decodeN decode_at decodeGo)
set_option linter.unusedVariables false
theorem zb12 (fl st : Int) (t : ByteArray) (w : World) : Calls Tryd.prog 12 #[.int .u8 fl, .int .i64 st, .string t] w fun e w' => (∃ b, e = .returned (.bool b) ∧ (b = true → t.size ≤ 1048576)) ∧ w = w' := by
  by_cases h1 : t.size ≤ 1048576
  · go_enter Tryd.func12, Tryd.ntmps12
    go_wp2_with fail
    go_ret
    exact ⟨⟨_, rfl, fun _ => h1⟩, rfl⟩
  · go_enter Tryd.func12, Tryd.ntmps12
    go_wp2_with fail
    go_ret
    exact ⟨⟨false, rfl, fun h => by cases h⟩, rfl⟩
set_option maxRecDepth 100000 in
theorem hb13 (s : ByteArray) (hs : s.size ≤ 1048576) (w : World) : Calls Tryd.prog 13 #[.string s, .int .u8 92] w fun e w' => (∃ b, e = .returned (.bool b) ∧ (b = false → ∀ i, i < s.size → byt s i ≠ 92)) ∧ w = w' := by
  go_enter Tryd.func13, Tryd.ntmps13
  go_wp2_with fail
  go_loopw [5] (fun iv w' => ∃ i : Nat, iv = .int .i64 i ∧ w = w' ∧ i ≤ s.size ∧ ∀ k, k < i → byt s k ≠ 92) (fun iv w' => s.size - (intOf iv).toNat)
  case atStart => exact ⟨0, rfl, rfl, by omega, fun k hk => absurd hk (by omega)⟩
  case round =>
    obtain ⟨i, rfl, rfl, hi, hall⟩ := hrel
    have HA := Lib.hid hall
    clear hall
    by_cases hlt : i < s.size
    · have HB := Lib.hid (byt_at s i hlt)
      by_cases he : (s[i]'hlt).toNat = 92
      · have e1 : (((s[i]'hlt).toNat : Int) == 92) = true := by rw [beq_iff_eq]; omega
        clear he
        go_wp2_with fail
        go_ret
        exact ⟨⟨true, rfl, fun h => by cases h⟩, rfl⟩
      · have e1 : (((s[i]'hlt).toNat : Int) == 92) = false := by rw [beq_eq_false_iff_ne]; omega
        have HE := Lib.hid he
        clear he
        go_wp2_with fail
        go_roundw
        case rel =>
          refine ⟨i + 1, by simp, by trivial, by omega, fun k hk => ?_⟩
          by_cases hki : k < i
          · exact HA.out k hki
          · obtain rfl : k = i := by omega
            rw [← HB.out]; exact HE.out
        case measure => simp only [intOf]; omega
    · go_wp2_with fail
      go_ret
      exact ⟨⟨false, rfl, fun _ k hk => HA.out k (by omega)⟩, rfl⟩
noncomputable def lexC (fl : Int) : Array Value := (Tryd.prog.built 106 [(31, .int .u8 fl)]).getD #[]
set_option maxRecDepth 100000 in
set_option maxHeartbeats 4000000 in
theorem ex16 (fl : Int) (st : Int) (s : ByteArray) (w : World) (hT : Lib.Utf8Tabs 0 1 w) (hs : s.size ≤ 1048576) (hno : ∀ i, i < s.size → byt s i ≠ 92) :
    Calls Tryd.prog 16 #[.int .u8 fl, .int .i64 st, .string s, .bool true] w fun e w' => (∃ v, e = .returned (.tuple #[v, .bool true, .int .i64 0]) ∧ OwnU w' w.heap.size v (pu s s.size 0)) ∧ Below w.heap.size w w' := by
  have HH := Lib.hid (fun p W hT => pl32 p st s true W hT hs hno)
  have HT := Lib.hid hT
  clear hT hno
  go_enter Tryd.func16, Tryd.ntmps16
  go_wp2_with (refine wpList_buildTo rfl 106 #[(31, .tmp 12)] rfl (some 13) rfl (lexC fl) (by kernel_rfl) ?_)
  have KB0 := Lib.hid ((Below.refl w.heap.size w).alloc (Nat.le_refl _) (Obj.cells (lexC fl) 106))
  refine (HH.out _ _ (tabs_below HT.out KB0.out)).mono ?_
  rintro e w1 ⟨⟨v, rfl, ho⟩, be⟩
  have HO := Lib.hid (ho.mono KB0.out.size); have KB1 := Lib.hid (KB0.out.trans (be.mono KB0.out.size))
  clear ho be
  dsimp only
  go_wp2_with fail
  go_ret3
  exact ⟨⟨v, rfl, HO.out⟩, KB1.out⟩
set_option maxRecDepth 100000 in
set_option maxHeartbeats 4000000 in
theorem FnDecodeEscapesPlainTextNormalizesNewlines_walk (a0 : Int) (a1 : Int) (s : ByteArray) (w0 : (Lit.int .u8 a0).wf = true) (w1 : (Lit.int .i64 a1).wf = true) (w2 : s.size ≤ maxLen) (w : World) (hT : Lib.Utf8Tabs 0 1 w) :
    Calls Tryd.prog 4 #[.int .u8 a0, .int .i64 a1, .string s] w fun e w' => e = .returned (.bool true) ∧ Below w.heap.size w w' := by
  obtain ⟨i0, hin, hz0, hz1, hz2⟩ := info_parts infoU
  have HT := Lib.hid hT
  clear hT w1 w2
  have hfl : 0 ≤ a0 ∧ a0 ≤ 255 := by
    simp only [Lit.wf, Bool.and_eq_true, decide_eq_true_eq] at w0
    have e1 : IntKind.u8.min = 0 := by decide
    have e2 : IntKind.u8.max = 255 := by decide
    omega
  clear w0
  go_enter Tryd.func4, Tryd.ntmps4
  go_wp2_with fail
  refine (zb12 a0 a1 s w).mono ?_
  rintro e w1 ⟨⟨b, rfl, hb⟩, rfl⟩
  cases b
  · dsimp only
    go_wp2_with fail
    go_ret
    exact ⟨rfl, Below.refl _ _⟩
  have hs := hb rfl
  clear hb
  dsimp only
  go_wp2_with fail
  refine (hb13 s hs w).mono ?_
  rintro e w1 ⟨⟨b, rfl, hb⟩, rfl⟩
  cases b
  case true =>
    dsimp only
    go_wp2_with fail
    go_ret
    exact ⟨rfl, Below.refl _ _⟩
  have HNO := Lib.hid (hb rfl)
  clear hb
  dsimp only
  go_wp2_with fail
  go_loopw [7, 8] (fun sl iv w' => ∃ i : Nat, iv = .int .i64 i ∧ i ≤ s.size ∧ Hid (RelP w s sl i w')) (fun sl iv w' => s.size - (intOf iv).toNat)
  case atStart =>
    refine ⟨0, rfl, by omega, Lib.hid ⟨[], s.size, by omega, ?_, (Below.refl _ _).alloc (Nat.le_refl _) _, by simp, by omega, by simp⟩⟩
    exact ⟨by simp [cellsU], Or.inr ⟨w.heap.size, 0, #[], rfl, Nat.le_refl _, heap_alloc_new _ _, by simp, by unfold maxLen; omega, by simp, by simp [cellsU]⟩⟩
  case round =>
    obtain ⟨i, rfl, hi, HR⟩ := hrel
    obtain ⟨pre, f, _, hO, hB, hU, hF, hpl⟩ := HR.out
    have HO := Lib.hid hO; have KB := Lib.hid hB; have HU := Lib.hid hU; have HF := Lib.hid hF
    clear hO hB hU hF HR
    by_cases hlt : i < s.size
    · obtain ⟨f', rfl⟩ : ∃ f', f = f' + 1 := ⟨f - 1, by have := HF.out; omega⟩
      have HP := Lib.hid (show pu s (f' + 1) i = if byt s i = 13 then 10 :: pu s f' (if i + 1 < s.size ∧ byt s (i + 1) = 10 then i + 2 else i + 1) else u16 (decodeGo (s.extract i s.size)).1 ++ pu s f' (i + (decodeGo (s.extract i s.size)).2) by
        rw [pu, if_pos hlt])
      have HB := Lib.hid (byt_at s i hlt)
      by_cases h13 : (s[i]'hlt).toNat = 13
      · have e13 : (((s[i]'hlt).toNat : Int) == 13) = true := by rw [beq_iff_eq]; omega
        have HP3 := Lib.hid (show pre ++ [10] ++ pu s f' (if i + 1 < s.size ∧ byt s (i + 1) = 10 then i + 2 else i + 1) = pu s s.size 0 by
          have hb : byt s i = 13 := by rw [← HB.out]; exact h13
          rw [← HU.out, HP.out, if_pos hb]; simp)
        obtain ⟨I, hI⟩ : ∃ I, i + 1 = I := ⟨_, rfl⟩
        have hI' : (i : Int) + 1 = (I : Int) := by omega
        have hIs : I ≤ s.size := by omega
        have HOA := Lib.hid (World.ownsRow.alloc HO.out (.cells #[.int .u16 10] 30))
        clear HP HU h13
        by_cases hn1 : I < s.size
        · have HBy := Lib.hid (byt_at s I hn1)
          by_cases hn2 : (s[I]'hn1).toNat = 10
          · have e10 : (((s[I]'hn1).toNat : Int) == 10) = true := by rw [beq_iff_eq]; omega
            have HP2 := Lib.hid (show pre ++ [10] ++ pu s f' (I + 1) = pu s s.size 0 by
              have h := HP3.out; rw [if_pos ⟨by omega, by rw [hI, ← HBy.out]; exact hn2⟩] at h; rw [show I + 1 = i + 2 by omega]; exact h)
            obtain ⟨J, hJ⟩ : ∃ J, I + 1 = J := ⟨_, rfl⟩
            have hJ' : (I : Int) + 1 = (J : Int) := by omega
            have hJs : J ≤ s.size := by omega
            rw [hJ] at HP2
            clear hn2 HP3
            go_wp2_with (at_builtin; refine wpList_append_own _ rfl _ _ 29 rfl w.heap.size 30 i0 (.int .u16 0) 1 2 Tryd.underlying29 hin hz0 hz1 hz2 rfl (by decide) _ pre.length (cellsU pre) rfl HOA.out ⟨wr.heap.size, 0, none⟩ 1 1 [.int .u16 10] rfl rfl (cell_one _ _ _) (by intro u hu; simp at hu; subst hu; rfl) (by unfold maxLen; omega) (by omega) (by have := KB.out.size; simp; omega) ?_; intro v1 w2 hown1 hg1 hnil1; have OA1 := Lib.hid (own_app hown1); have KA1 := Lib.hid (KB.out.trans ((below_alloc1 wr w.heap.size KB.out.size _).trans (below_grown hg1 w.heap.size (by have := KB.out.size; simp; omega) HO.out.lt))); clear hown1 hg1 hnil1)
            go_roundw
            case rel => exact ⟨J, by trivial, by omega, Lib.hid ⟨pre ++ [10], f', hJs, OA1.out, KA1.out, HP2.out, by have := HF.out; omega, by simp; omega⟩⟩
            case measure => simp only [intOf]; omega
          · have e10 : (((s[I]'hn1).toNat : Int) == 10) = false := by rw [beq_eq_false_iff_ne]; omega
            have HP2 := Lib.hid (show pre ++ [10] ++ pu s f' I = pu s s.size 0 by
              have h := HP3.out; rw [if_neg (fun hh => hn2 (by rw [HBy.out, ← hI]; exact hh.2))] at h; rw [show I = i + 1 by omega]; exact h)
            have hJs := hIs
            clear hn2 HP3
            go_wp2_with (at_builtin; refine wpList_append_own _ rfl _ _ 29 rfl w.heap.size 30 i0 (.int .u16 0) 1 2 Tryd.underlying29 hin hz0 hz1 hz2 rfl (by decide) _ pre.length (cellsU pre) rfl HOA.out ⟨wr.heap.size, 0, none⟩ 1 1 [.int .u16 10] rfl rfl (cell_one _ _ _) (by intro u hu; simp at hu; subst hu; rfl) (by unfold maxLen; omega) (by omega) (by have := KB.out.size; simp; omega) ?_; intro v1 w2 hown1 hg1 hnil1; have OA1 := Lib.hid (own_app hown1); have KA1 := Lib.hid (KB.out.trans ((below_alloc1 wr w.heap.size KB.out.size _).trans (below_grown hg1 w.heap.size (by have := KB.out.size; simp; omega) HO.out.lt))); clear hown1 hg1 hnil1)
            go_roundw
            case rel => exact ⟨I, by trivial, by omega, Lib.hid ⟨pre ++ [10], f', hJs, OA1.out, KA1.out, HP2.out, by have := HF.out; omega, by simp; omega⟩⟩
            case measure => simp only [intOf]; omega
        · have HP2 := Lib.hid (show pre ++ [10] ++ pu s f' I = pu s s.size 0 by
            have h := HP3.out; rw [if_neg (fun hh => by omega)] at h; rw [show I = i + 1 by omega]; exact h)
          have hJs := hIs
          clear HP3
          go_wp2_with (at_builtin; refine wpList_append_own _ rfl _ _ 29 rfl w.heap.size 30 i0 (.int .u16 0) 1 2 Tryd.underlying29 hin hz0 hz1 hz2 rfl (by decide) _ pre.length (cellsU pre) rfl HOA.out ⟨wr.heap.size, 0, none⟩ 1 1 [.int .u16 10] rfl rfl (cell_one _ _ _) (by intro u hu; simp at hu; subst hu; rfl) (by unfold maxLen; omega) (by omega) (by have := KB.out.size; simp; omega) ?_; intro v1 w2 hown1 hg1 hnil1; have OA1 := Lib.hid (own_app hown1); have KA1 := Lib.hid (KB.out.trans ((below_alloc1 wr w.heap.size KB.out.size _).trans (below_grown hg1 w.heap.size (by have := KB.out.size; simp; omega) HO.out.lt))); clear hown1 hg1 hnil1)
          go_roundw
          case rel => exact ⟨I, by trivial, by omega, Lib.hid ⟨pre ++ [10], f', hJs, OA1.out, KA1.out, HP2.out, by have := HF.out; omega, by simp; omega⟩⟩
          case measure => simp only [intOf]; omega
      · have e13 : (((s[i]'hlt).toNat : Int) == 13) = false := by rw [beq_eq_false_iff_ne]; omega
        obtain ⟨C, hC⟩ : ∃ C, (decodeGo (s.extract i s.size)).1 = C := ⟨_, rfl⟩
        obtain ⟨K, hK⟩ : ∃ K, (decodeGo (s.extract i s.size)).2 = K := ⟨_, rfl⟩
        have hwid := dec_wid s i hlt
        have hmax := dec_max s i hlt
        have hulen := u16_len s i hlt
        have hd := dr14 s i hlt hs
        unfold RuneAt at hd
        rw [hC, hK] at hd
        rw [hK] at hwid
        rw [hC] at hmax
        rw [hC, hK] at hulen
        obtain ⟨I, hI⟩ : ∃ I, i + K = I := ⟨_, rfl⟩
        have hI' : (i : Int) + (K : Int) = (I : Int) := by omega
        have HP2 := Lib.hid (show pre ++ u16 C ++ pu s f' I = pu s s.size 0 by
          rw [← HU.out, HP.out, if_neg (by rw [← HB.out]; exact h13), hC, hK, hI, List.append_assoc])
        have HD := Lib.hid hd
        clear hd hC hK h13 HP HU
        go_wp2_with fail
        refine (HD.out _).mono ?_
        rintro e wa ⟨rfl, ba⟩
        have KBa := Lib.hid (KB.out.trans (ba.mono KB.out.size)); have HOa := Lib.hid (HO.out.keep ba)
        clear ba
        dsimp only
        go_wp2_with fail
        refine (ap15 wa w.heap.size _ pre C hmax HOa.out KBa.out.size (by omega)).mono ?_
        rintro e wb ⟨v', rfl, ho, hbb⟩
        have HOb := Lib.hid ho; have KBb := Lib.hid (KBa.out.trans hbb)
        clear ho hbb hmax
        dsimp only
        go_wp2_with fail
        go_roundw
        case rel => exact ⟨I, by trivial, by omega, Lib.hid ⟨pre ++ u16 C, f', by omega, HOb.out, KBb.out, HP2.out, by have := HF.out; omega, by simp; omega⟩⟩
        case measure => simp only [intOf]; omega
    · have HE := Lib.hid (show pre = pu s s.size 0 by have h := HU.out; rw [pu_end s f i (by omega), List.append_nil] at h; exact h)
      have hm3 : IntKind.u8.wrap (a0 % 3) = a0 % 3 := by rw [IntKind.wrap_u8]; omega
      go_wp2_with fail
      refine (ex16 (a0 % 3) a1 s wr (tabs_below HT.out KB.out) hs HNO.out).mono ?_
      rintro e wx ⟨⟨v, rfl, ho⟩, be⟩
      have U1 := Lib.hid ho.units; have U2 := Lib.hid (HO.out.keep be).units; have KBx := Lib.hid (KB.out.trans (be.mono KB.out.size))
      have HLn := Lib.hid (show (pu s s.size 0).length ≤ 4194304 by rw [← HE.out]; omega)
      clear ho be
      dsimp only
      go_wp2_with fail
      refine (eq17 wx _ _ (pu s s.size 0) pre U1.out U2.out HLn.out (by omega)).mono ?_
      rintro e wy ⟨⟨b, rfl, hb⟩, n, rfl⟩
      obtain rfl := hb.2 HE.out.symm
      clear hb
      dsimp only
      go_wp2_with fail
      go_ret
      exact ⟨rfl, below_dn KBx.out _⟩
end Go.Proofs.YtcnembabenlheaaDoor
