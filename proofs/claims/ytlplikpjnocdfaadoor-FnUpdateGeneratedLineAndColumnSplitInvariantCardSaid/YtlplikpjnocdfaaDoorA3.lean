/-
  encodeVLQ: the digits of a number, appended.
-/
import Derived.Test.YtlplikpjnocdfaaDoorA1
namespace Go.Proofs.YtlplikpjnocdfaaDoor
open Go.ChangeShapes Go.WideShapes Go.ChangeAt Go.RowKit
set_option linter.unusedVariables false
set_option maxRecDepth 100000 in
set_option maxHeartbeats 8000000 in
/-- encodeVLQ: the digits of a number, appended -/
theorem enc36 (w : World) (B : Nat) (v : Value) (xs : List Int) (a : Int) (R o cc : Nat) (hO : OwnB w B v xs) (hB : B ≤ w.heap.size) (hT : TabB w B R o cc) (hxs : xs.length ≤ 67108864) (ha0 : -4294967296 ≤ a) (ha1 : a ≤ 4294967296) :
    Calls Tryd.prog 36 #[v, .int .i64 a] w fun e w' => ∃ v', e = .returned v' ∧ OwnB w' B v' (xs ++ enc (zig a)) ∧ Mv w w' v v' := by
  obtain ⟨i0, hin, hz0, hz1, hz2⟩ := info_parts info5
  obtain ⟨V, hV⟩ : ∃ V, zig a = V := ⟨_, rfl⟩
  have hVl : V < 34359738368 := by rw [← hV]; unfold zig; split <;> omega
  have HV := Lib.hid hV
  have HO := Lib.hid hO
  have HT := Lib.hid hT
  have hvar := hT.tab.var
  have HB := Lib.hid hB
  obtain ⟨m, hm⟩ : ∃ m : Nat, (a = -(m : Int) ∧ 0 < m ∧ V = 2 * m + 1) ∨ (a = (m : Int) ∧ V = 2 * m) := by
    unfold zig at hV
    by_cases hneg : a < 0
    · rw [if_pos hneg] at hV
      exact ⟨(-a).toNat, Or.inl ⟨by omega, by omega, by omega⟩⟩
    · rw [if_neg hneg] at hV
      exact ⟨a.toNat, Or.inr ⟨by omega, by omega⟩⟩
  clear hV hO hT hB
  rcases hm with ⟨rfl, hm0, hVm⟩ | ⟨rfl, hVm⟩
  · have hml : m ≤ 4294967296 := by omega
    have g2 : bits .or .i64 ((m : Int) * 2) 1 = (V : Int) := by rw [show (m : Int) * 2 = ((2 * m : Nat) : Int) by omega, or1 m (by omega), hVm]
    clear hVm
    by_cases h32 : V < 32
    · have g3 : ((V : Int) / 32 == 0) = true := by simp; omega
      have g4 : bits .and .i64 (V : Int) 31 = (V : Int) := by rw [and31 V (by omega), Nat.mod_eq_of_lt h32]
      have hrow := HT.out.tab.row V (by omega)
      rw [show b64i.getD V 0 = chr V from rfl] at hrow
      have HE := Lib.hid (show enc V = [chr V] by unfold enc encF; rw [if_pos h32])
      obtain ⟨ch, hch⟩ : ∃ ch, chr V = ch := ⟨_, rfl⟩
      rw [hch] at hrow HE
      have HOA := Lib.hid (World.ownsRow.alloc HO.out (.cells #[.int .u8 ch] 5))
      have h64 : V < 64 := by omega
      clear hch h32
      go_enter Tryd.func36, Tryd.ntmps36
      go_wp2_with (at_builtin; refine wpList_append_own_at _ rfl (.tmp 21) (.tmp 26) 34 rfl B 5 i0 (.int .u8 0) 1 1 Tryd.underlying34 hin hz0 hz1 hz2 rfl (by decide) v xs.length (cellsB xs) rfl HOA.out ⟨w.heap.size, 0, none⟩ 1 1 [.int .u8 ch] rfl rfl (cell_one _ _ _) (by intro u hu; simp at hu; subst hu; rfl) (by unfold maxLen; omega) (by omega) (by have := HB.out; simp; omega) ?_; intro v1 w1 hown1 hg1 hnil1 hat1; have HO1 := Lib.hid hown1; have HG1 := Lib.hid (Mv.app hg1 hat1); clear hown1 hg1 hnil1 hat1)
      go_ret
      refine ⟨_, rfl, ?_, HG1.out⟩
      rw [HV.out, HE.out]
      exact own_app HO1.out
    · have g3 : ((V : Int) / 32 == 0) = false := by simp; omega
      clear h32
      go_enter Tryd.func36, Tryd.ntmps36
      go_wp2_with fail
      go_loopw [0, 5] (fun sl vq wr => ∃ (pre : List Int) (U f : Nat), vq = .int .i64 U ∧ U < 32 ^ f ∧ 1 ≤ f ∧ f ≤ 7 ∧ Hid (OwnB wr B sl (xs ++ pre)) ∧ Hid (Mv w wr v sl) ∧ Hid (pre ++ encF f U = enc V) ∧ pre.length + f ≤ 7) (fun _ vq _ => (intOf vq).toNat)
      case atStart => exact ⟨[], V, 7, rfl, by omega, by omega, by omega, Lib.hid (by rw [List.append_nil]; exact HO.out), Lib.hid (Mv.refl _ _), Lib.hid rfl, by simp⟩
      case round =>
        obtain ⟨pre, U, f, rfl, hUf, hf1, hf7, HOr, HKr, HEr, hpl⟩ := hrel
        have HBr := Lib.hid (HKr.out.below B HB.out HO.out.lt)
        have HTr := Lib.hid (HT.out.below HBr.out)
        have hvr := HTr.out.tab.var
        have HBs := Lib.hid (Nat.le_trans HB.out HBr.out.size)
        obtain ⟨f', rfl⟩ : ∃ f', f = f' + 1 := ⟨f - 1, by omega⟩
        by_cases h32 : U < 32
        · have g3 : (U : Int) / 32 = 0 := by omega
          have g4 : bits .and .i64 (U : Int) 31 = (U : Int) := by rw [and31 U (by omega), Nat.mod_eq_of_lt h32]
          have hrow := HTr.out.tab.row U (by omega)
          rw [show b64i.getD U 0 = chr U from rfl] at hrow
          have HE := Lib.hid (show pre ++ [chr U] = enc V by rw [← HEr.out]; unfold encF; rw [if_pos h32])
          obtain ⟨ch, hch⟩ : ∃ ch, chr U = ch := ⟨_, rfl⟩
          rw [hch] at hrow HE
          have HOA := Lib.hid (World.ownsRow.alloc HOr.out (.cells #[.int .u8 ch] 5))
          have h64 : U < 64 := by omega
          have hpx : (xs ++ pre).length + 1 ≤ 67108880 := by simp; omega
          clear hch h32
          go_wp2_with (at_builtin; refine wpList_append_own_at _ rfl (.tmp 37) (.tmp 42) 34 rfl B 5 i0 (.int .u8 0) 1 1 Tryd.underlying34 hin hz0 hz1 hz2 rfl (by decide) _ (xs ++ pre).length (cellsB (xs ++ pre)) rfl HOA.out ⟨wr.heap.size, 0, none⟩ 1 1 [.int .u8 ch] rfl rfl (cell_one _ _ _) (by intro u hu; simp at hu; subst hu; rfl) (by unfold maxLen; omega) (by omega) (by have := HBs.out; simp; omega) ?_; intro v1 w1 hown1 hg1 hnil1 hat1; have HO1 := Lib.hid hown1; have HG1 := Lib.hid (Mv.app hg1 hat1); clear hown1 hg1 hnil1 hat1)
          go_ret
          refine ⟨_, rfl, ?_, HKr.out.trans HG1.out⟩
          rw [HV.out, ← HE.out, ← List.append_assoc]
          exact own_app HO1.out
        · obtain ⟨U2, hU2⟩ : ∃ U2, U / 32 = U2 := ⟨_, rfl⟩
          have g3 : (U : Int) / 32 = (U2 : Int) := by omega
          have g5 : ((U2 : Int) != 0) = true := by simp; omega
          have g6 : ((U2 : Int) == 0) = false := by simp; omega
          obtain ⟨D, hD⟩ : ∃ D, U % 32 = D := ⟨_, rfl⟩
          have hD32 : D < 32 := by rw [← hD]; exact Nat.mod_lt _ (by omega)
          have g4 : bits .and .i64 (U : Int) 31 = (D : Int) := by rw [and31 U (by have : 32 ^ (f' + 1) ≤ 32 ^ 7 := Nat.pow_le_pow_right (by omega) (by omega); omega), hD]
          obtain ⟨D2, hD2⟩ : ∃ D2, D + 32 = D2 := ⟨_, rfl⟩
          have g7 : bits .or .i64 (D : Int) 32 = (D2 : Int) := by rw [or32 D hD32, hD2]
          have hrow := HTr.out.tab.row D2 (by omega)
          rw [show b64i.getD D2 0 = chr D2 from rfl] at hrow
          have HE := Lib.hid (show (pre ++ [chr D2]) ++ encF f' U2 = enc V by rw [← HEr.out, encF, if_neg h32, hD, hD2, hU2]; simp)
          have hUf' : U2 < 32 ^ f' := by rw [← hU2]; rw [Nat.pow_succ] at hUf; omega
          have hUU : U2 < U := by omega
          have hf0 : 1 ≤ f' := by
            by_cases h : f' = 0
            · subst h; simp at hUf'; omega
            · omega
          obtain ⟨ch, hch⟩ : ∃ ch, chr D2 = ch := ⟨_, rfl⟩
          rw [hch] at hrow HE
          have HOA := Lib.hid (World.ownsRow.alloc HOr.out (.cells #[.int .u8 ch] 5))
          have h64 : D2 < 64 := by omega
          have hpx : (xs ++ pre).length + 1 ≤ 67108880 := by simp; omega
          clear hch h32 hU2 hD hD2 hUf
          go_wp2_with (at_builtin; refine wpList_append_own_at _ rfl (.tmp 37) (.tmp 42) 34 rfl B 5 i0 (.int .u8 0) 1 1 Tryd.underlying34 hin hz0 hz1 hz2 rfl (by decide) _ (xs ++ pre).length (cellsB (xs ++ pre)) rfl HOA.out ⟨wr.heap.size, 0, none⟩ 1 1 [.int .u8 ch] rfl rfl (cell_one _ _ _) (by intro u hu; simp at hu; subst hu; rfl) (by unfold maxLen; omega) (by omega) (by have := HBs.out; simp; omega) ?_; intro v1 w1 hown1 hg1 hnil1 hat1; have HO1 := Lib.hid hown1; have HG1 := Lib.hid (Mv.app hg1 hat1); clear hown1 hg1 hnil1 hat1)
          go_roundw
          case rel => exact ⟨pre ++ [ch], U2, f', rfl, hUf', hf0, by omega, Lib.hid (by rw [← List.append_assoc]; exact own_app HO1.out), Lib.hid (HKr.out.trans HG1.out), HE, by simp; omega⟩
          case measure => simp only [intOf]; omega
  · have hml : m ≤ 4294967296 := by omega
    have g2 : (m : Int) * 2 = (V : Int) := by omega
    clear hVm
    by_cases h32 : V < 32
    · have g3 : ((V : Int) / 32 == 0) = true := by simp; omega
      have g4 : bits .and .i64 (V : Int) 31 = (V : Int) := by rw [and31 V (by omega), Nat.mod_eq_of_lt h32]
      have hrow := HT.out.tab.row V (by omega)
      rw [show b64i.getD V 0 = chr V from rfl] at hrow
      have HE := Lib.hid (show enc V = [chr V] by unfold enc encF; rw [if_pos h32])
      obtain ⟨ch, hch⟩ : ∃ ch, chr V = ch := ⟨_, rfl⟩
      rw [hch] at hrow HE
      have HOA := Lib.hid (World.ownsRow.alloc HO.out (.cells #[.int .u8 ch] 5))
      have h64 : V < 64 := by omega
      clear hch h32
      go_enter Tryd.func36, Tryd.ntmps36
      go_wp2_with (at_builtin; refine wpList_append_own_at _ rfl (.tmp 21) (.tmp 26) 34 rfl B 5 i0 (.int .u8 0) 1 1 Tryd.underlying34 hin hz0 hz1 hz2 rfl (by decide) v xs.length (cellsB xs) rfl HOA.out ⟨w.heap.size, 0, none⟩ 1 1 [.int .u8 ch] rfl rfl (cell_one _ _ _) (by intro u hu; simp at hu; subst hu; rfl) (by unfold maxLen; omega) (by omega) (by have := HB.out; simp; omega) ?_; intro v1 w1 hown1 hg1 hnil1 hat1; have HO1 := Lib.hid hown1; have HG1 := Lib.hid (Mv.app hg1 hat1); clear hown1 hg1 hnil1 hat1)
      go_ret
      refine ⟨_, rfl, ?_, HG1.out⟩
      rw [HV.out, HE.out]
      exact own_app HO1.out
    · have g3 : ((V : Int) / 32 == 0) = false := by simp; omega
      clear h32
      go_enter Tryd.func36, Tryd.ntmps36
      go_wp2_with fail
      go_loopw [0, 5] (fun sl vq wr => ∃ (pre : List Int) (U f : Nat), vq = .int .i64 U ∧ U < 32 ^ f ∧ 1 ≤ f ∧ f ≤ 7 ∧ Hid (OwnB wr B sl (xs ++ pre)) ∧ Hid (Mv w wr v sl) ∧ Hid (pre ++ encF f U = enc V) ∧ pre.length + f ≤ 7) (fun _ vq _ => (intOf vq).toNat)
      case atStart => exact ⟨[], V, 7, rfl, by omega, by omega, by omega, Lib.hid (by rw [List.append_nil]; exact HO.out), Lib.hid (Mv.refl _ _), Lib.hid rfl, by simp⟩
      case round =>
        obtain ⟨pre, U, f, rfl, hUf, hf1, hf7, HOr, HKr, HEr, hpl⟩ := hrel
        have HBr := Lib.hid (HKr.out.below B HB.out HO.out.lt)
        have HTr := Lib.hid (HT.out.below HBr.out)
        have hvr := HTr.out.tab.var
        have HBs := Lib.hid (Nat.le_trans HB.out HBr.out.size)
        obtain ⟨f', rfl⟩ : ∃ f', f = f' + 1 := ⟨f - 1, by omega⟩
        by_cases h32 : U < 32
        · have g3 : (U : Int) / 32 = 0 := by omega
          have g4 : bits .and .i64 (U : Int) 31 = (U : Int) := by rw [and31 U (by omega), Nat.mod_eq_of_lt h32]
          have hrow := HTr.out.tab.row U (by omega)
          rw [show b64i.getD U 0 = chr U from rfl] at hrow
          have HE := Lib.hid (show pre ++ [chr U] = enc V by rw [← HEr.out]; unfold encF; rw [if_pos h32])
          obtain ⟨ch, hch⟩ : ∃ ch, chr U = ch := ⟨_, rfl⟩
          rw [hch] at hrow HE
          have HOA := Lib.hid (World.ownsRow.alloc HOr.out (.cells #[.int .u8 ch] 5))
          have h64 : U < 64 := by omega
          have hpx : (xs ++ pre).length + 1 ≤ 67108880 := by simp; omega
          clear hch h32
          go_wp2_with (at_builtin; refine wpList_append_own_at _ rfl (.tmp 37) (.tmp 42) 34 rfl B 5 i0 (.int .u8 0) 1 1 Tryd.underlying34 hin hz0 hz1 hz2 rfl (by decide) _ (xs ++ pre).length (cellsB (xs ++ pre)) rfl HOA.out ⟨wr.heap.size, 0, none⟩ 1 1 [.int .u8 ch] rfl rfl (cell_one _ _ _) (by intro u hu; simp at hu; subst hu; rfl) (by unfold maxLen; omega) (by omega) (by have := HBs.out; simp; omega) ?_; intro v1 w1 hown1 hg1 hnil1 hat1; have HO1 := Lib.hid hown1; have HG1 := Lib.hid (Mv.app hg1 hat1); clear hown1 hg1 hnil1 hat1)
          go_ret
          refine ⟨_, rfl, ?_, HKr.out.trans HG1.out⟩
          rw [HV.out, ← HE.out, ← List.append_assoc]
          exact own_app HO1.out
        · obtain ⟨U2, hU2⟩ : ∃ U2, U / 32 = U2 := ⟨_, rfl⟩
          have g3 : (U : Int) / 32 = (U2 : Int) := by omega
          have g5 : ((U2 : Int) != 0) = true := by simp; omega
          have g6 : ((U2 : Int) == 0) = false := by simp; omega
          obtain ⟨D, hD⟩ : ∃ D, U % 32 = D := ⟨_, rfl⟩
          have hD32 : D < 32 := by rw [← hD]; exact Nat.mod_lt _ (by omega)
          have g4 : bits .and .i64 (U : Int) 31 = (D : Int) := by rw [and31 U (by have : 32 ^ (f' + 1) ≤ 32 ^ 7 := Nat.pow_le_pow_right (by omega) (by omega); omega), hD]
          obtain ⟨D2, hD2⟩ : ∃ D2, D + 32 = D2 := ⟨_, rfl⟩
          have g7 : bits .or .i64 (D : Int) 32 = (D2 : Int) := by rw [or32 D hD32, hD2]
          have hrow := HTr.out.tab.row D2 (by omega)
          rw [show b64i.getD D2 0 = chr D2 from rfl] at hrow
          have HE := Lib.hid (show (pre ++ [chr D2]) ++ encF f' U2 = enc V by rw [← HEr.out, encF, if_neg h32, hD, hD2, hU2]; simp)
          have hUf' : U2 < 32 ^ f' := by rw [← hU2]; rw [Nat.pow_succ] at hUf; omega
          have hUU : U2 < U := by omega
          have hf0 : 1 ≤ f' := by
            by_cases h : f' = 0
            · subst h; simp at hUf'; omega
            · omega
          obtain ⟨ch, hch⟩ : ∃ ch, chr D2 = ch := ⟨_, rfl⟩
          rw [hch] at hrow HE
          have HOA := Lib.hid (World.ownsRow.alloc HOr.out (.cells #[.int .u8 ch] 5))
          have h64 : D2 < 64 := by omega
          have hpx : (xs ++ pre).length + 1 ≤ 67108880 := by simp; omega
          clear hch h32 hU2 hD hD2 hUf
          go_wp2_with (at_builtin; refine wpList_append_own_at _ rfl (.tmp 37) (.tmp 42) 34 rfl B 5 i0 (.int .u8 0) 1 1 Tryd.underlying34 hin hz0 hz1 hz2 rfl (by decide) _ (xs ++ pre).length (cellsB (xs ++ pre)) rfl HOA.out ⟨wr.heap.size, 0, none⟩ 1 1 [.int .u8 ch] rfl rfl (cell_one _ _ _) (by intro u hu; simp at hu; subst hu; rfl) (by unfold maxLen; omega) (by omega) (by have := HBs.out; simp; omega) ?_; intro v1 w1 hown1 hg1 hnil1 hat1; have HO1 := Lib.hid hown1; have HG1 := Lib.hid (Mv.app hg1 hat1); clear hown1 hg1 hnil1 hat1)
          go_roundw
          case rel => exact ⟨pre ++ [ch], U2, f', rfl, hUf', hf0, by omega, Lib.hid (by rw [← List.append_assoc]; exact own_app HO1.out), Lib.hid (HKr.out.trans HG1.out), HE, by simp; omega⟩
          case measure => simp only [intOf]; omega
end Go.Proofs.YtlplikpjnocdfaaDoor
