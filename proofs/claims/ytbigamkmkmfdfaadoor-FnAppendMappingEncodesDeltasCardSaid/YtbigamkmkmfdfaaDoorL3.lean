/-
  zzScanVLQ, zzHornerBytes, zzCopyBytes.
-/
import Derived.Test.YtbigamkmkmfdfaaDoorL2
namespace Go.Proofs.YtbigamkmkmfdfaaDoor
open Go.ChangeShapes Go.WideShapes Go.ChangeAt Go.RowKit
set_option linter.unusedVariables false
/-- all its elements are bytes -/
def AllB (xs : List Int) : Prop := ∀ i, i < xs.length → 0 ≤ xs.getD i 0 ∧ xs.getD i 0 < 256
theorem Scan.digits {xs : List Int} {k e : Nat} (h : Scan xs k e) : ∀ t, k ≤ t → t < e → 0 ≤ dgt (xs.getD t 0) := by
  induction h with
  | bad k => intro t h1 h2; omega
  | last k h1 h2 h3 => intro t h4 h5; obtain rfl : t = k := by omega
                       exact h2
  | more k e h1 h2 h3 ih =>
    intro t h4 h5
    by_cases ht : t = k
    · subst ht; omega
    · exact ih t (by omega) h5
set_option maxRecDepth 100000 in
set_option maxHeartbeats 2000000 in
theorem scan24 (w : World) (p : Option Addr) (n c : Nat) (xs : List Int) (start : Nat) (hB : Bytes w (.slice p n c) xs) (hA : AllB xs) (hn : n ≤ 2097152) (hs : start ≤ n) :
    Calls Tryd.prog 24 #[.slice p n c, .int .i64 start] w fun e w' => (∃ (e0 : Nat) (ov : Bool), e = .returned (.tuple #[.int .i64 e0, .bool ov]) ∧ (ov = false → Scan xs start e0)) ∧ w = w' := by
  obtain ⟨q, cq, eq, hcq, hi⟩ := hB
  obtain ⟨rfl, rfl, rfl⟩ : q = p ∧ xs.length = n ∧ cq = c := by cases eq; exact ⟨rfl, rfl, rfl⟩
  have HI := Lib.hid hi
  have HA := Lib.hid hA
  clear hi hA eq
  go_enter Tryd.func24, Tryd.ntmps24
  go_wp2_with fail
  go_loopw [6] (fun s w' => ∃ k : Nat, w = w' ∧ s = .int .i64 k ∧ k ≤ xs.length ∧ Hid (∀ e, Scan xs k e → Scan xs start e)) (fun s _ => xs.length - (intOf s).toNat)
  case atStart => exact ⟨start, rfl, rfl, hs, Lib.hid (fun e h => h)⟩
  case round =>
    obtain ⟨k, rfl, rfl, hk, hcl⟩ := hrel
    by_cases hkl : k < xs.length
    · obtain ⟨a, rfl, hc⟩ := HI.out k hkl
      obtain ⟨hx0, hx1⟩ := HA.out k hkl
      obtain ⟨x, hx⟩ : ∃ x, xs.getD k 0 = x := ⟨_, rfl⟩
      rw [hx] at hc hx0 hx1
      have HX := Lib.hid hx; clear hx
      have H37 := Lib.hid (fun w => bi37 x hx0 hx1 w)
      have hdl := dgt_lt x
      by_cases h1 : dgt x < 0
      · have hd : dgt x = -1 := by have := dgt_ge x; omega
        rw [hd] at H37
        have HS := Lib.hid (hcl.out k (Scan.bad k hkl (by rw [HX.out]; exact h1)))
        clear h1 hd hdl
        go_wp2_with (go_at_call 37; refine (H37.out _).mono ?_; rintro e w2 ⟨rfl, rfl⟩)
        go_ret2
        exact ⟨⟨k, false, rfl, fun _ => HS.out⟩, rfl⟩
      · obtain ⟨d, hd⟩ := Int.eq_ofNat_of_zero_le (show 0 ≤ dgt x by omega)
        rw [hd] at H37
        by_cases h2 : d < 32
        · have g4 : (bits .and .i64 (d : Int) 32 == 0) = true := by rw [and32 d (by omega)]; simp [h2]
          have HS := Lib.hid (hcl.out (k + 1) (Scan.last k hkl (by rw [HX.out, hd]; omega) (by rw [HX.out, hd]; omega)))
          clear h1 hd hdl h2
          go_wp2_with (go_at_call 37; refine (H37.out _).mono ?_; rintro e w2 ⟨rfl, rfl⟩)
          go_ret2
          exact ⟨⟨k + 1, false, by simp, fun _ => HS.out⟩, rfl⟩
        · have g4 : (bits .and .i64 (d : Int) 32 == 0) = false := by rw [and32 d (by omega)]; simp; omega
          have HS := Lib.hid (fun e h => hcl.out e (Scan.more k e hkl (by rw [HX.out, hd]; omega) h))
          clear h1 hd hdl h2
          go_wp2_with (go_at_call 37; refine (H37.out _).mono ?_; rintro e w2 ⟨rfl, rfl⟩)
          go_roundw
          case rel => exact ⟨k + 1, by trivial, by simp, by omega, HS⟩
          case measure => simp only [intOf]; omega
    · obtain rfl : k = xs.length := by omega
      go_wp2_with fail
      go_ret2
      exact ⟨⟨xs.length, true, rfl, fun h => by cases h⟩, rfl⟩
set_option maxRecDepth 100000 in
set_option maxHeartbeats 2000000 in
theorem horner25 (w : World) (p : Option Addr) (n c : Nat) (xs : List Int) (f m g : Nat) (HG : Hid (f + m = g)) (hB : Bytes w (.slice p n c) xs) (hA : AllB xs) (hn : n ≤ 2097152) (hf : f + m ≤ n) (hm7 : m ≤ 7) (hd : ∀ t, f ≤ t → t < f + m → 0 ≤ dgt (xs.getD t 0)) :
    Calls Tryd.prog 25 #[.slice p n c, .int .i64 f, .int .i64 g] w fun e w' => e = .returned (.int .i64 (val xs f m)) ∧ w = w' := by
  obtain ⟨q, cq, eq, hcq, hi⟩ := hB
  obtain ⟨rfl, rfl, rfl⟩ : q = p ∧ xs.length = n ∧ cq = c := by cases eq; exact ⟨rfl, rfl, rfl⟩
  have HI := Lib.hid hi
  have HA := Lib.hid hA
  have HD := Lib.hid hd
  clear hi hA eq hd
  have hg1 : g ≤ 2097160 := by have := HG.out; omega
  go_enter Tryd.func25, Tryd.ntmps25
  go_wp2_with fail
  go_loopw [7, 8] (fun mm tt w' => ∃ i : Nat, w = w' ∧ i ≤ m ∧ mm = .int .i64 (val xs (f + i) (m - i)) ∧ tt = .int .i64 ((f : Int) + i - 1)) (fun _ tt _ => (intOf tt + 1).toNat)
  case atStart => exact ⟨m, rfl, Nat.le_refl _, by rw [Nat.sub_self]; rfl, by have := HG.out; congr 1; omega⟩
  case round =>
    obtain ⟨i, rfl, him, rfl, rfl⟩ := hrel
    by_cases hi0 : i = 0
    · subst hi0
      have c1 : ¬ (f : Int) ≤ (f : Int) + (0 : Nat) - 1 := by omega
      go_wp2_with fail
      go_ret
      exact ⟨rfl, rfl⟩
    · obtain ⟨i', rfl⟩ : ∃ i', i = i' + 1 := ⟨i - 1, by omega⟩
      have ht : (f : Int) + (i' + 1 : Nat) - 1 = ((f + i' : Nat) : Int) := by omega
      have hlt : f + i' < xs.length := by omega
      obtain ⟨a, rfl, hc⟩ := HI.out (f + i') hlt
      obtain ⟨hx0, hx1⟩ := HA.out (f + i') hlt
      have hdg := HD.out (f + i') (by omega) (by omega)
      obtain ⟨x, hx⟩ : ∃ x, xs.getD (f + i') 0 = x := ⟨_, rfl⟩
      have hval : val xs (f + i') (m - i') = (dgt x).toNat % 32 + 32 * val xs (f + (i' + 1)) (m - (i' + 1)) := by
        rw [show m - i' = (m - (i' + 1)) + 1 by omega, val, hx, show f + i' + 1 = f + (i' + 1) by omega]
      have hvl := val_lt xs (m - (i' + 1)) (f + (i' + 1))
      have hpow : 2 ^ (5 * (m - (i' + 1))) ≤ 2 ^ 30 := Nat.pow_le_pow_right (by omega) (by omega)
      rw [hx] at hc hx0 hx1 hdg
      have H37 := Lib.hid (fun w => bi37 x hx0 hx1 w)
      obtain ⟨d, hdd⟩ := Int.eq_ofNat_of_zero_le hdg
      rw [hdd] at H37 hval
      have hd64 : d < 64 := by have := dgt_lt x; omega
      obtain ⟨V, hV⟩ : ∃ V, val xs (f + (i' + 1)) (m - (i' + 1)) = V := ⟨_, rfl⟩
      rw [hV] at hval hvl ⊢
      have hVl : V < 1073741824 := by omega
      obtain ⟨D1, g1⟩ : ∃ D1, bits .and .i64 (d : Int) 31 = D1 := ⟨_, rfl⟩
      have hD1 : D1 = ((d % 32 : Nat) : Int) := by rw [← g1]; exact and31 d (by omega)
      have hD0 : 0 ≤ D1 := by omega
      have hD31 : D1 < 32 := by have : d % 32 < 32 := Nat.mod_lt _ (by omega); omega
      have HF := Lib.hid (show (V : Int) * 32 + D1 = ((val xs (f + i') (m - i') : Nat) : Int) by rw [hval, hD1]; simp; omega)
      rw [ht]
      obtain ⟨t, htt⟩ : ∃ t, f + i' = t := ⟨_, rfl⟩
      rw [htt] at hc hlt ⊢
      have HTT := Lib.hid htt
      clear hval hvl hpow hdd hV hD1 hdg hx htt ht
      have hft : (f : Int) ≤ (t : Int) := by have := HTT.out; omega
      go_wp2_with (go_at_call 37; refine (H37.out _).mono ?_; rintro e w2 ⟨rfl, rfl⟩)
      go_roundw
      case rel =>
        refine ⟨i', by trivial, by omega, ?_, ?_⟩
        · rw [← HF.out]
        · have := HTT.out; congr 1; omega
      case measure => simp only [intOf]; have := HTT.out; omega
end Go.Proofs.YtbigamkmkmfdfaaDoor
