/-
  The encoder's small functions.
-/
import Derived.Test.YtemneajjdbbgoaaFmtV2a
namespace Go.Proofs.YtemneajjdbbgoaaFmt
open Go.ChangeShapes Go.WideShapes Go.ChangeAt Go.RowKit
set_option linter.unusedVariables false
theorem hdF (d : Int) (up : Bool) (h0 : 0 ≤ d) (h1 : d ≤ 15) (w : World) : Calls Tryf.prog 20 #[.int .u16 d, .bool up] w fun e w' => e = .returned (.int .u8 (hdig up d)) ∧ w = w' := by
  by_cases h : d < 10
  · have e : hdig up d = 48 + d := by simp [hdig, h]
    rw [e]
    go_enter Tryf.func20, Tryf.ntmps20
    go_wp2_with fail
    go_ret
    exact ⟨rfl, rfl⟩
  · cases up
    · have e : hdig false d = 87 + d := by simp [hdig, h]
      rw [e]
      go_enter Tryf.func20, Tryf.ntmps20
      go_wp2_with fail
      go_ret
      exact ⟨ret_int (by omega), rfl⟩
    · have e : hdig true d = 55 + d := by simp [hdig, h]
      rw [e]
      go_enter Tryf.func20, Tryf.ntmps20
      go_wp2_with fail
      go_ret
      exact ⟨ret_int (by omega), rfl⟩
theorem u16_and_nat (a b : Nat) (ha : a < 65536) (hb : b < 65536) : bits .and .u16 (a : Int) (b : Int) = ((a &&& b : Nat) : Int) := by
  have hx : a &&& b < 2 ^ 16 := Nat.and_lt_two_pow _ (by omega)
  show IntKind.u16.wrap ((BitVec.ofInt 16 (a : Int) &&& BitVec.ofInt 16 (b : Int)).toNat : Int) = _
  rw [BitVec.toNat_and, BitVec.ofInt_natCast, BitVec.toNat_ofNat, BitVec.ofInt_natCast, BitVec.toNat_ofNat, Nat.mod_eq_of_lt (by omega), Nat.mod_eq_of_lt (by omega), IntKind.wrap_u16]
  omega
theorem u16_or_nat (a b : Nat) (ha : a < 65536) (hb : b < 65536) : bits .or .u16 (a : Int) (b : Int) = ((a ||| b : Nat) : Int) := by
  have hx : a ||| b < 2 ^ 16 := Nat.or_lt_two_pow (by omega) (by omega)
  show IntKind.u16.wrap ((BitVec.ofInt 16 (a : Int) ||| BitVec.ofInt 16 (b : Int)).toNat : Int) = _
  rw [BitVec.toNat_or, BitVec.ofInt_natCast, BitVec.toNat_ofNat, BitVec.ofInt_natCast, BitVec.toNat_ofNat, Nat.mod_eq_of_lt (by omega), Nat.mod_eq_of_lt (by omega), IntKind.wrap_u16]
  omega
theorem u16_mask (a k m : Nat) (ha : a < 65536) (hm : m = 2 ^ k - 1) (hb : m < 65536) : bits .and .u16 (a : Int) (m : Int) = ((a % 2 ^ k : Nat) : Int) := by
  rw [u16_and_nat a m ha hb, hm, Nat.and_two_pow_sub_one_eq_mod]
theorem u16_join (h l k : Nat) (hl : l < 2 ^ k) (hb : h * 2 ^ k < 65536) (hk : 2 ^ k ≤ 65536) : bits .or .u16 ((h * 2 ^ k : Nat) : Int) (l : Int) = ((h * 2 ^ k + l : Nat) : Int) := by
  rw [u16_or_nat _ _ hb (by omega), Nat.mul_comm h (2 ^ k), Nat.two_pow_add_eq_or_of_lt hl h]
set_option maxRecDepth 100000 in
set_option maxHeartbeats 4000000 in
/-- zzHexLen: a number of digits that u needs -/
theorem hlF (u : Nat) (hu : u < 65536) (w : World) : Calls Tryf.prog 12 #[.int .u16 u] w fun e w' => ∃ n : Nat, e = .returned (.int .i64 n) ∧ 1 ≤ n ∧ n ≤ 4 ∧ u < 16 ^ n ∧ w = w' := by
  go_enter Tryf.func12, Tryf.ntmps12
  go_wp2_with fail
  go_loopg [0, 3] u (fun m va vb wx => ∃ k V : Nat, va = .int .u16 V ∧ vb = .int .i64 (k + 1 : Nat) ∧ V = m ∧ k ≤ 3 ∧ u / 16 ^ k = V ∧ w = wx)
  case atStart => exact ⟨0, u, rfl, rfl, rfl, by omega, by simp, rfl⟩
  case round =>
    obtain ⟨k, V, rfl, rfl, rfl, hk, hV, rfl⟩ := hrel
    by_cases hlt : V < 16
    · have HK := Lib.hid (And.intro hk hV)
      clear hk hV
      have h1 : ¬ (16 : Int) ≤ (V : Int) := by omega
      go_wp2_with fail
      go_ret
      refine ⟨k + 1, rfl, by omega, by have := HK.out.1; omega, ?_, rfl⟩
      obtain ⟨h1, h2⟩ := HK.out
      rcases (show k = 0 ∨ k = 1 ∨ k = 2 ∨ k = 3 by omega) with rfl | rfl | rfl | rfl <;> omega
    · have h1 : (16 : Int) ≤ (V : Int) := by omega
      obtain ⟨V', hV'⟩ : ∃ V', V / 16 = V' := ⟨_, rfl⟩
      have hV2 : (V : Int) / 16 = (V' : Int) := by omega
      have HK := Lib.hid (show k + 1 ≤ 3 ∧ u / 16 ^ (k + 1) = V' by
        rcases (show k = 0 ∨ k = 1 ∨ k = 2 ∨ k = 3 by omega) with rfl | rfl | rfl | rfl <;> omega)
      have hVl : V < 65536 := by rw [← hV]; exact Nat.lt_of_le_of_lt (Nat.div_le_self _ _) hu
      have HV := Lib.hid hV'
      clear hV hV' hlt
      go_wp2_with fail
      go_roundg V'
      case measure => have := HV.out; omega
      case rel => exact ⟨k + 1, V', rfl, rfl, rfl, HK.out.1, HK.out.2, rfl⟩
set_option maxRecDepth 100000 in
set_option maxHeartbeats 4000000 in
/-- zzAppendHexFixed -/
theorem hfF (w : World) (B : Nat) (v : Value) (xs : List Int) (u n : Nat) (up : Bool) (hu : u < 65536) (hn : n ≤ 4) (hO : OwnB w B v xs) (hB : B ≤ w.heap.size) (hl : xs.length ≤ 1048600) :
    Calls Tryf.prog 11 #[v, .int .u16 u, .int .i64 n, .bool up] w fun e w' => ∃ v', e = .returned v' ∧ OwnB w' B v' (xs ++ hexN up u n) ∧ Mv w w' v v' := by
  have HO := Lib.hid hO; have HB := Lib.hid hB
  clear hO hB
  go_enter Tryf.func11, Tryf.ntmps11
  go_wp2_with fail
  go_loopg [0, 9] n (fun m vb vk wx => ∃ (j : Nat) (pre : List Int), vk = .int .i64 ((j : Int) - 1) ∧ j = m ∧ j ≤ n ∧ Hid (pre ++ hexN up u j = hexN up u n ∧ OwnB wx B vb (xs ++ pre) ∧ Mv w wx v vb))
  case atStart => exact ⟨n, [], rfl, rfl, Nat.le_refl _, Lib.hid ⟨by simp, by simpa using HO.out, Mv.refl w v⟩⟩
  case round =>
    obtain ⟨j, pre, rfl, rfl, hj, H⟩ := hrel
    have hplen : pre.length + j = n := by
      have := congrArg List.length H.out.1
      simpa [hexN_len] using this
    have hB' : B ≤ wr.heap.size := Nat.le_trans HB.out H.out.2.2.g.size
    have HB' := Lib.hid hB'
    clear hB'
    rcases (show j = 0 ∨ j = 1 ∨ j = 2 ∨ j = 3 ∨ j = 4 by omega) with rfl | rfl | rfl | rfl | rfl
    · go_wp2_with fail
      go_ret
      refine ⟨_, rfl, ?_, H.out.2.2⟩
      have := H.out.2.1
      rw [← H.out.1]
      simpa [hexN] using this
    · obtain ⟨D, hD⟩ : ∃ D : Nat, u % 16 = D := ⟨_, rfl⟩
      have hd : bits .and .u16 (u : Int) 15 = (D : Int) := by
        rw [show (15 : Int) = ((15 : Nat) : Int) from rfl, u16_mask (u) 4 15 (by omega) rfl (by omega)]
        exact congrArg _ hD
      have HX := Lib.hid (show hexN up u 1 = hdig up D :: hexN up u 0 by
        show hdig up ((u : Int) / 16 ^ 0 % 16) :: hexN up u 0 = _
        rw [show (u : Int) / 16 ^ 0 % 16 = (D : Int) by simp; omega])
      have hD15 : (D : Int) ≤ 15 := by omega
      clear hD
      go_wp2_with fail
      refine (hdF D up (by omega) hD15 _).mono ?_
      rintro e w1 ⟨rfl, rfl⟩
      dsimp only
      go_wp2_with (at_builtin; refine wp_appL rfl _ _ rfl B _ (xs ++ pre) [hdig up D] rfl H.out.2.1 rfl _ rfl HB'.out (by simp; omega) ?_; intro v1 w1 o1 m1; have O1 := Lib.hid o1; have M1 := Lib.hid m1; clear o1 m1)
      go_roundg 0
      case measure => omega
      case rel => exact ⟨0, pre ++ [hdig up D], by first | rfl | simp, rfl, by omega, Lib.hid ⟨by rw [← H.out.1, HX.out]; simp, by have := O1.out; simpa using this, H.out.2.2.trans M1.out⟩⟩
    · obtain ⟨D, hD⟩ : ∃ D : Nat, u / 16 % 16 = D := ⟨_, rfl⟩
      have hd : bits .and .u16 ((u : Int) / 16) 15 = (D : Int) := by
        rw [show (u : Int) / 16 = ((u / 16 : Nat) : Int) by omega, show (15 : Int) = ((15 : Nat) : Int) from rfl, u16_mask (u / 16) 4 15 (by omega) rfl (by omega)]
        exact congrArg _ hD
      have HX := Lib.hid (show hexN up u 2 = hdig up D :: hexN up u 1 by
        show hdig up ((u : Int) / 16 ^ 1 % 16) :: hexN up u 1 = _
        rw [show (u : Int) / 16 ^ 1 % 16 = (D : Int) by simp; omega])
      have hD15 : (D : Int) ≤ 15 := by omega
      clear hD
      go_wp2_with fail
      refine (hdF D up (by omega) hD15 _).mono ?_
      rintro e w1 ⟨rfl, rfl⟩
      dsimp only
      go_wp2_with (at_builtin; refine wp_appL rfl _ _ rfl B _ (xs ++ pre) [hdig up D] rfl H.out.2.1 rfl _ rfl HB'.out (by simp; omega) ?_; intro v1 w1 o1 m1; have O1 := Lib.hid o1; have M1 := Lib.hid m1; clear o1 m1)
      go_roundg 1
      case measure => omega
      case rel => exact ⟨1, pre ++ [hdig up D], by first | rfl | simp, rfl, by omega, Lib.hid ⟨by rw [← H.out.1, HX.out]; simp, by have := O1.out; simpa using this, H.out.2.2.trans M1.out⟩⟩
    · obtain ⟨D, hD⟩ : ∃ D : Nat, u / 256 % 16 = D := ⟨_, rfl⟩
      have hd : bits .and .u16 ((u : Int) / 256) 15 = (D : Int) := by
        rw [show (u : Int) / 256 = ((u / 256 : Nat) : Int) by omega, show (15 : Int) = ((15 : Nat) : Int) from rfl, u16_mask (u / 256) 4 15 (by omega) rfl (by omega)]
        exact congrArg _ hD
      have HX := Lib.hid (show hexN up u 3 = hdig up D :: hexN up u 2 by
        show hdig up ((u : Int) / 16 ^ 2 % 16) :: hexN up u 2 = _
        rw [show (u : Int) / 16 ^ 2 % 16 = (D : Int) by simp; omega])
      have hD15 : (D : Int) ≤ 15 := by omega
      clear hD
      go_wp2_with fail
      refine (hdF D up (by omega) hD15 _).mono ?_
      rintro e w1 ⟨rfl, rfl⟩
      dsimp only
      go_wp2_with (at_builtin; refine wp_appL rfl _ _ rfl B _ (xs ++ pre) [hdig up D] rfl H.out.2.1 rfl _ rfl HB'.out (by simp; omega) ?_; intro v1 w1 o1 m1; have O1 := Lib.hid o1; have M1 := Lib.hid m1; clear o1 m1)
      go_roundg 2
      case measure => omega
      case rel => exact ⟨2, pre ++ [hdig up D], by first | rfl | simp, rfl, by omega, Lib.hid ⟨by rw [← H.out.1, HX.out]; simp, by have := O1.out; simpa using this, H.out.2.2.trans M1.out⟩⟩
    · obtain ⟨D, hD⟩ : ∃ D : Nat, u / 4096 % 16 = D := ⟨_, rfl⟩
      have hd : bits .and .u16 ((u : Int) / 4096) 15 = (D : Int) := by
        rw [show (u : Int) / 4096 = ((u / 4096 : Nat) : Int) by omega, show (15 : Int) = ((15 : Nat) : Int) from rfl, u16_mask (u / 4096) 4 15 (by omega) rfl (by omega)]
        exact congrArg _ hD
      have HX := Lib.hid (show hexN up u 4 = hdig up D :: hexN up u 3 by
        show hdig up ((u : Int) / 16 ^ 3 % 16) :: hexN up u 3 = _
        rw [show (u : Int) / 16 ^ 3 % 16 = (D : Int) by simp; omega])
      have hD15 : (D : Int) ≤ 15 := by omega
      clear hD
      go_wp2_with fail
      refine (hdF D up (by omega) hD15 _).mono ?_
      rintro e w1 ⟨rfl, rfl⟩
      dsimp only
      go_wp2_with (at_builtin; refine wp_appL rfl _ _ rfl B _ (xs ++ pre) [hdig up D] rfl H.out.2.1 rfl _ rfl HB'.out (by simp; omega) ?_; intro v1 w1 o1 m1; have O1 := Lib.hid o1; have M1 := Lib.hid m1; clear o1 m1)
      go_roundg 3
      case measure => omega
      case rel => exact ⟨3, pre ++ [hdig up D], by first | rfl | simp, rfl, by omega, Lib.hid ⟨by rw [← H.out.1, HX.out]; simp, by have := O1.out; simpa using this, H.out.2.2.trans M1.out⟩⟩
set_option maxRecDepth 100000 in
set_option maxHeartbeats 4000000 in
/-- zzAppendU4 -/
theorem u4F (w : World) (B : Nat) (v : Value) (xs : List Int) (u : Nat) (up : Bool) (hu : u < 65536) (hO : OwnB w B v xs) (hB : B ≤ w.heap.size) (hl : xs.length ≤ 1048590) :
    Calls Tryf.prog 13 #[v, .int .u16 u, .bool up] w fun e w' => ∃ v', e = .returned v' ∧ OwnB w' B v' (xs ++ ([92, 117] ++ hexN up u 4)) ∧ Mv w w' v v' := by
  have HO := Lib.hid hO; have HB := Lib.hid hB
  clear hO hB
  go_enter Tryf.func13, Tryf.ntmps13
  go_wp2_with (at_builtin; refine wp_appL rfl _ _ rfl B v xs [92, 117] rfl HO.out rfl _ rfl HB.out (by simp; omega) ?_; intro v1 w1 o1 m1; have O1 := Lib.hid o1; have M1 := Lib.hid m1; clear o1 m1)
  refine (hfF w1 B v1 (xs ++ [92, 117]) u 4 up hu (by omega) O1.out (Nat.le_trans HB.out M1.out.g.size) (by simp; omega)).mono ?_
  rintro e w2 ⟨v2, rfl, o2, m2⟩
  have O2 := Lib.hid o2; have M2 := Lib.hid m2
  clear o2 m2
  dsimp only
  go_wp2_with fail
  go_ret
  exact ⟨_, rfl, by have := O2.out; simpa using this, M1.out.trans M2.out⟩
set_option maxRecDepth 100000 in
set_option maxHeartbeats 4000000 in
/-- zzAppendUTF8 -/
theorem u8F (w : World) (B : Nat) (v : Value) (xs : List Int) (u : Nat) (hu : u < 65536) (hO : OwnB w B v xs) (hB : B ≤ w.heap.size) (hl : xs.length ≤ 1048590) :
    Calls Tryf.prog 15 #[v, .int .u16 u] w fun e w' => ∃ v', e = .returned v' ∧ OwnB w' B v' (xs ++ u8s u) ∧ Mv w w' v v' := by
  have HO := Lib.hid hO; have HB := Lib.hid hB
  clear hO hB
  by_cases h1 : u < 128
  · have HU := Lib.hid (show u8s u = [(u : Int)] by unfold u8s; rw [if_pos h1])
    have hw : IntKind.u8.wrap (u : Int) = (u : Int) := by rw [IntKind.wrap_u8]; omega
    go_enter Tryf.func15, Tryf.ntmps15
    go_wp2_with (at_builtin; refine wp_appL rfl _ _ rfl B v xs [(u : Int)] rfl HO.out rfl _ rfl HB.out (by simp; omega) ?_; intro v1 w1 o1 m1; have O1 := Lib.hid o1; have M1 := Lib.hid m1; clear o1 m1)
    go_ret
    exact ⟨_, rfl, by rw [HU.out]; exact O1.out, M1.out⟩
  obtain ⟨q, hq⟩ : ∃ q, u / 64 = q := ⟨_, rfl⟩
  obtain ⟨m, hm⟩ : ∃ m, u % 64 = m := ⟨_, rfl⟩
  have q1 : (u : Int) / 64 = (q : Int) := by omega
  have hb1 : bits .and .u16 (u : Int) 63 = (m : Int) := by rw [show (63 : Int) = ((63 : Nat) : Int) from rfl, u16_mask u 6 63 hu rfl (by omega), ← hm]
  have hm64 : m < 64 := by omega
  have hb2 : bits .or .u16 128 (m : Int) = ((128 + m : Nat) : Int) := by have := u16_join 2 m 6 hm64 (by omega) (by omega); simpa using this
  obtain ⟨z, hz⟩ : ∃ z : Nat, 128 + m = z := ⟨_, rfl⟩
  rw [hz] at hb2
  have wz : IntKind.u8.wrap (z : Int) = (z : Int) := by rw [IntKind.wrap_u8]; omega
  by_cases h2 : u < 2048
  · have hb3 : bits .or .u16 192 (q : Int) = ((192 + q : Nat) : Int) := by have := u16_join 3 q 6 (by omega) (by omega) (by omega); simpa using this
    obtain ⟨y, hy⟩ : ∃ y : Nat, 192 + q = y := ⟨_, rfl⟩
    rw [hy] at hb3
    have wy : IntKind.u8.wrap (y : Int) = (y : Int) := by rw [IntKind.wrap_u8]; omega
    have HU := Lib.hid (show u8s u = [(y : Int), (z : Int)] by unfold u8s; rw [if_neg h1, if_pos h2, hq, hm, hy, hz])
    clear hq hm hz hy
    go_enter Tryf.func15, Tryf.ntmps15
    go_wp2_with (at_builtin; refine wp_appL rfl _ _ rfl B v xs [(y : Int), (z : Int)] rfl HO.out rfl _ rfl HB.out (by simp; omega) ?_; intro v1 w1 o1 m1; have O1 := Lib.hid o1; have M1 := Lib.hid m1; clear o1 m1)
    go_ret
    exact ⟨_, rfl, by rw [HU.out]; exact O1.out, M1.out⟩
  · obtain ⟨r, hr⟩ : ∃ r, u / 4096 = r := ⟨_, rfl⟩
    have r1 : (u : Int) / 4096 = (r : Int) := by omega
    obtain ⟨t, ht⟩ : ∃ t, q % 64 = t := ⟨_, rfl⟩
    have hb3 : bits .and .u16 (q : Int) 63 = (t : Int) := by rw [show (63 : Int) = ((63 : Nat) : Int) from rfl, u16_mask q 6 63 (by omega) rfl (by omega), ← ht]
    have hb4 : bits .or .u16 128 (t : Int) = ((128 + t : Nat) : Int) := by have := u16_join 2 t 6 (by omega) (by omega) (by omega); simpa using this
    have hb5 : bits .or .u16 224 (r : Int) = ((224 + r : Nat) : Int) := by have := u16_join 14 r 4 (by omega) (by omega) (by omega); simpa using this
    obtain ⟨y, hy⟩ : ∃ y : Nat, 224 + r = y := ⟨_, rfl⟩
    rw [hy] at hb5
    obtain ⟨x, hx⟩ : ∃ x : Nat, 128 + t = x := ⟨_, rfl⟩
    rw [hx] at hb4
    have wy : IntKind.u8.wrap (y : Int) = (y : Int) := by rw [IntKind.wrap_u8]; omega
    have wx : IntKind.u8.wrap (x : Int) = (x : Int) := by rw [IntKind.wrap_u8]; omega
    have HU := Lib.hid (show u8s u = [(y : Int), (x : Int), (z : Int)] by unfold u8s; rw [if_neg h1, if_neg h2, hq, hm, hr, ht, hy, hx, hz])
    clear hq hm hz hy hr ht hx
    go_enter Tryf.func15, Tryf.ntmps15
    go_wp2_with (at_builtin; refine wp_appL rfl _ _ rfl B v xs [(y : Int), (x : Int), (z : Int)] rfl HO.out rfl _ rfl HB.out (by simp; omega) ?_; intro v1 w1 o1 m1; have O1 := Lib.hid o1; have M1 := Lib.hid m1; clear o1 m1)
    go_ret
    exact ⟨_, rfl, by rw [HU.out]; exact O1.out, M1.out⟩
theorem ne_bb (u : Nat) (k : Int) (h : (u : Int) ≠ k) : ((u : Int) != k) = true := by simp; exact h
set_option maxRecDepth 100000 in
set_option maxHeartbeats 4000000 in
/-- zzIsSurrogate -/
theorem suF (u : Nat) (w : World) : Calls Tryf.prog 17 #[.int .u16 u] w fun e w' => e = .returned (.bool (decide (55296 ≤ u ∧ u ≤ 57343))) ∧ w = w' := by
  by_cases h1 : 55296 ≤ u
  · by_cases h2 : u ≤ 57343
    · have HR := Lib.hid (show decide (55296 ≤ u ∧ u ≤ 57343) = true from decide_eq_true ⟨h1, h2⟩)
      have i1 : (55296 : Int) ≤ (u : Int) := by omega
      have i2 : (u : Int) ≤ 57343 := by omega
      clear h1 h2
      go_enter Tryf.func17, Tryf.ntmps17
      go_wp2_with fail
      go_ret
      exact ⟨ret_bool (by first | exact HR.out.symm | (have h := HR.out; simp at h ⊢; omega)), rfl⟩
    · have HR := Lib.hid (show decide (55296 ≤ u ∧ u ≤ 57343) = false from decide_eq_false (by omega))
      have i1 : (55296 : Int) ≤ (u : Int) := by omega
      have i2 : ¬ (u : Int) ≤ 57343 := by omega
      clear h1 h2
      go_enter Tryf.func17, Tryf.ntmps17
      go_wp2_with fail
      go_ret
      exact ⟨ret_bool (by first | exact HR.out.symm | (have h := HR.out; simp at h ⊢; omega)), rfl⟩
  · have HR := Lib.hid (show decide (55296 ≤ u ∧ u ≤ 57343) = false from decide_eq_false (by omega))
    have i1 : ¬ (55296 : Int) ≤ (u : Int) := by omega
    clear h1
    go_enter Tryf.func17, Tryf.ntmps17
    go_wp2_with fail
    go_ret
    exact ⟨ret_bool (by first | exact HR.out.symm | (have h := HR.out; simp at h ⊢; omega)), rfl⟩
def rawA (u : Nat) : Bool := decide (32 ≤ u ∧ u ≤ 126 ∧ u ≠ 92 ∧ u ≠ 34 ∧ u ≠ 39 ∧ u ≠ 96 ∧ u ≠ 36)
set_option maxRecDepth 100000 in
set_option maxHeartbeats 4000000 in
/-- zzIsRawASCII -/
theorem raF (u : Nat) (w : World) : Calls Tryf.prog 16 #[.int .u16 u] w fun e w' => e = .returned (.bool (rawA u)) ∧ w = w' := by
  have hcl : True := trivial
  by_cases h32 : 32 ≤ u
  case neg =>
    have i1 : ¬ (32 : Int) ≤ (u : Int) := by omega
    have HR := Lib.hid (show rawA u = false from decide_eq_false (by omega))
    clear hcl
    go_enter Tryf.func16, Tryf.ntmps16
    go_wp2_with fail
    go_ret
    exact ⟨ret_bool HR.out.symm, rfl⟩
  have i1 : (32 : Int) ≤ (u : Int) := by omega
  by_cases h126 : u ≤ 126
  case neg =>
    have i2 : ¬ (u : Int) ≤ 126 := by omega
    have HR := Lib.hid (show rawA u = false from decide_eq_false (by omega))
    clear hcl
    go_enter Tryf.func16, Tryf.ntmps16
    go_wp2_with fail
    go_ret
    exact ⟨ret_bool HR.out.symm, rfl⟩
  have i2 : (u : Int) ≤ 126 := by omega
  by_cases h92 : u = 92
  · subst h92
    go_enter Tryf.func16, Tryf.ntmps16
    go_wp2_with fail
    go_ret
    exact ⟨rfl, rfl⟩
  have n92 := ne_bb u 92 (by omega)
  by_cases h34 : u = 34
  · subst h34
    go_enter Tryf.func16, Tryf.ntmps16
    go_wp2_with fail
    go_ret
    exact ⟨rfl, rfl⟩
  have n34 := ne_bb u 34 (by omega)
  by_cases h39 : u = 39
  · subst h39
    go_enter Tryf.func16, Tryf.ntmps16
    go_wp2_with fail
    go_ret
    exact ⟨rfl, rfl⟩
  have n39 := ne_bb u 39 (by omega)
  by_cases h96 : u = 96
  · subst h96
    go_enter Tryf.func16, Tryf.ntmps16
    go_wp2_with fail
    go_ret
    exact ⟨rfl, rfl⟩
  have n96 := ne_bb u 96 (by omega)
  by_cases h36 : u = 36
  · subst h36
    go_enter Tryf.func16, Tryf.ntmps16
    go_wp2_with fail
    go_ret
    exact ⟨rfl, rfl⟩
  have n36 := ne_bb u 36 (by omega)
  have HR := Lib.hid (show rawA u = true from decide_eq_true (by omega))
  clear hcl
  go_enter Tryf.func16, Tryf.ntmps16
  go_wp2_with fail
  go_ret
  exact ⟨ret_bool HR.out.symm, rfl⟩
def idA (u : Nat) : Bool := decide ((32 ≤ u ∧ u ≤ 126 ∧ ¬ (48 ≤ u ∧ u ≤ 57) ∧ u ≠ 98 ∧ u ≠ 102 ∧ u ≠ 110 ∧ u ≠ 114 ∧ u ≠ 116 ∧ u ≠ 118 ∧ u ≠ 120 ∧ u ≠ 117) ∨ (128 ≤ u ∧ ¬ (55296 ≤ u ∧ u ≤ 57343) ∧ u ≠ 8232 ∧ u ≠ 8233))
set_option maxRecDepth 100000 in
set_option maxHeartbeats 4000000 in
/-- zzIdentityOK -/
theorem idF (u : Nat) (w : World) : Calls Tryf.prog 14 #[.int .u16 u] w fun e w' => e = .returned (.bool (idA u)) ∧ w = w' := by
  have hcl : True := trivial
  by_cases h32 : 32 ≤ u
  case neg =>
    have i1 : ¬ (32 : Int) ≤ (u : Int) := by omega
    have i2 : ¬ (128 : Int) ≤ (u : Int) := by omega
    have HR := Lib.hid (show idA u = false from decide_eq_false (by omega))
    clear hcl
    go_enter Tryf.func14, Tryf.ntmps14
    go_wp2_with fail
    go_ret
    exact ⟨ret_bool HR.out.symm, rfl⟩
  have i1 : (32 : Int) ≤ (u : Int) := by omega
  by_cases h126 : u ≤ 126
  case neg =>
    have i2 : ¬ (u : Int) ≤ 126 := by omega
    by_cases h128 : 128 ≤ u
    case neg =>
      have i3 : ¬ (128 : Int) ≤ (u : Int) := by omega
      have HR := Lib.hid (show idA u = false from decide_eq_false (by omega))
      clear hcl
      go_enter Tryf.func14, Tryf.ntmps14
      go_wp2_with fail
      go_ret
      exact ⟨ret_bool HR.out.symm, rfl⟩
    have i3 : (128 : Int) ≤ (u : Int) := by omega
    have HS := fun w => suF u w
    by_cases hs : 55296 ≤ u ∧ u ≤ 57343
    · have HR := Lib.hid (show idA u = false from decide_eq_false (by omega))
      rw [decide_eq_true hs] at HS
      have HSS := Lib.hid HS
      clear HS hs
      go_enter Tryf.func14, Tryf.ntmps14
      go_wp2_with fail
      refine (HSS.out _).mono ?_
      rintro e w1 ⟨rfl, rfl⟩
      dsimp only
      go_wp2_with fail
      go_ret
      exact ⟨ret_bool HR.out.symm, rfl⟩
    rw [decide_eq_false hs] at HS
    by_cases h8232 : u = 8232
    · subst h8232
      have HSS := Lib.hid HS
      clear HS hs
      go_enter Tryf.func14, Tryf.ntmps14
      go_wp2_with fail
      refine (HSS.out _).mono ?_
      rintro e w1 ⟨rfl, rfl⟩
      dsimp only
      go_wp2_with fail
      go_ret
      exact ⟨rfl, rfl⟩
    by_cases h8233 : u = 8233
    · subst h8233
      have HSS := Lib.hid HS
      clear HS hs
      go_enter Tryf.func14, Tryf.ntmps14
      go_wp2_with fail
      refine (HSS.out _).mono ?_
      rintro e w1 ⟨rfl, rfl⟩
      dsimp only
      go_wp2_with fail
      go_ret
      exact ⟨rfl, rfl⟩
    have n8232 := ne_b u 8232 (by omega)
    have n8233 := ne_b u 8233 (by omega)
    have HR := Lib.hid (show idA u = true from decide_eq_true (by omega))
    have HSS := Lib.hid HS
    clear HS hs
    go_enter Tryf.func14, Tryf.ntmps14
    go_wp2_with fail
    refine (HSS.out _).mono ?_
    rintro e w1 ⟨rfl, rfl⟩
    dsimp only
    go_wp2_with fail
    go_ret
    exact ⟨ret_bool HR.out.symm, rfl⟩
  have i2 : (u : Int) ≤ 126 := by omega
  by_cases hd : 48 ≤ u ∧ u ≤ 57
  · have HR := Lib.hid (show idA u = false from decide_eq_false (by omega))
    have j1 : (48 : Int) ≤ (u : Int) := by omega
    have j2 : (u : Int) ≤ 57 := by omega
    clear hd
    go_enter Tryf.func14, Tryf.ntmps14
    go_wp2_with fail
    go_ret
    exact ⟨ret_bool HR.out.symm, rfl⟩
  by_cases h98 : u = 98
  · subst h98
    go_enter Tryf.func14, Tryf.ntmps14
    go_wp2_with fail
    go_ret
    exact ⟨rfl, rfl⟩
  have n98 := ne_b u 98 (by omega)
  by_cases h102 : u = 102
  · subst h102
    go_enter Tryf.func14, Tryf.ntmps14
    go_wp2_with fail
    go_ret
    exact ⟨rfl, rfl⟩
  have n102 := ne_b u 102 (by omega)
  by_cases h110 : u = 110
  · subst h110
    go_enter Tryf.func14, Tryf.ntmps14
    go_wp2_with fail
    go_ret
    exact ⟨rfl, rfl⟩
  have n110 := ne_b u 110 (by omega)
  by_cases h114 : u = 114
  · subst h114
    go_enter Tryf.func14, Tryf.ntmps14
    go_wp2_with fail
    go_ret
    exact ⟨rfl, rfl⟩
  have n114 := ne_b u 114 (by omega)
  by_cases h116 : u = 116
  · subst h116
    go_enter Tryf.func14, Tryf.ntmps14
    go_wp2_with fail
    go_ret
    exact ⟨rfl, rfl⟩
  have n116 := ne_b u 116 (by omega)
  by_cases h118 : u = 118
  · subst h118
    go_enter Tryf.func14, Tryf.ntmps14
    go_wp2_with fail
    go_ret
    exact ⟨rfl, rfl⟩
  have n118 := ne_b u 118 (by omega)
  by_cases h120 : u = 120
  · subst h120
    go_enter Tryf.func14, Tryf.ntmps14
    go_wp2_with fail
    go_ret
    exact ⟨rfl, rfl⟩
  have n120 := ne_b u 120 (by omega)
  by_cases h117 : u = 117
  · subst h117
    go_enter Tryf.func14, Tryf.ntmps14
    go_wp2_with fail
    go_ret
    exact ⟨rfl, rfl⟩
  have n117 := ne_b u 117 (by omega)
  have HR := Lib.hid (show idA u = true from decide_eq_true (by omega))
  by_cases h57 : u ≤ 57
  · have j2 : ¬ (48 : Int) ≤ (u : Int) := by omega
    clear hd h98 h102 h110 h114 h116 h118 h120 h117
    go_enter Tryf.func14, Tryf.ntmps14
    go_wp2_with fail
    go_ret
    exact ⟨ret_bool HR.out.symm, rfl⟩
  · have j1 : (48 : Int) ≤ (u : Int) := by omega
    have j2 : ¬ (u : Int) ≤ 57 := by omega
    clear hd h98 h102 h110 h114 h116 h118 h120 h117
    go_enter Tryf.func14, Tryf.ntmps14
    go_wp2_with fail
    go_ret
    exact ⟨ret_bool HR.out.symm, rfl⟩
end Go.Proofs.YtemneajjdbbgoaaFmt
