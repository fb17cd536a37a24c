/-
  zzPutRune, zzIsWS, zzCleaned.
-/
import Derived.Test.YtcnembabenlheaaDoorT20
namespace Go.Proofs.YtcnembabenlheaaDoor
open Go.ChangeShapes Go.WideShapes Go.ChangeAt Go.RowKit
open Go.Lib (encodeRuneZ encodeRuneZ_one encodeRuneZ_two encodeRuneZ_three encodeRuneZ_four encodeRuneZ_bad encodeRuneZ_byte encodeRuneZ_length)
set_option linter.unusedVariables false
theorem or_i32 (h l k H : Nat) (hH : h * 2 ^ k = H) (hl : l < 2 ^ k) (hb : H < 2147483648) (hk : 2 ^ k ≤ 2147483648) : bits .or .i32 (H : Int) (l : Int) = (H : Int) + (l : Int) := by
  have := i32_join h l k hl (by omega) hk
  rw [hH] at this; rw [this]; omega
theorem and63 (x : Int) (h0 : 0 ≤ x) (h1 : x < 2147483648) : bits .and .i32 x 63 = x % 64 := by
  obtain ⟨n, rfl⟩ : ∃ n : Nat, x = n := ⟨x.toNat, by omega⟩
  have := i32_mask n 6 63 (by omega) rfl (by omega)
  rw [show ((63 : Nat) : Int) = 63 from rfl] at this
  rw [this]; omega
theorem or128 (x : Int) (h0 : 0 ≤ x) (h1 : x < 64) : bits .or .i32 128 x = 128 + x := by
  obtain ⟨n, rfl⟩ : ∃ n : Nat, x = n := ⟨x.toNat, by omega⟩
  exact or_i32 2 n 6 128 rfl (by omega) (by omega) (by omega)
theorem or192 (x : Int) (h0 : 0 ≤ x) (h1 : x < 32) : bits .or .i32 192 x = 192 + x := by
  obtain ⟨n, rfl⟩ : ∃ n : Nat, x = n := ⟨x.toNat, by omega⟩
  exact or_i32 6 n 5 192 rfl (by omega) (by omega) (by omega)
theorem or224 (x : Int) (h0 : 0 ≤ x) (h1 : x < 16) : bits .or .i32 224 x = 224 + x := by
  obtain ⟨n, rfl⟩ : ∃ n : Nat, x = n := ⟨x.toNat, by omega⟩
  exact or_i32 14 n 4 224 rfl (by omega) (by omega) (by omega)
theorem or240 (x : Int) (h0 : 0 ≤ x) (h1 : x < 8) : bits .or .i32 240 x = 240 + x := by
  obtain ⟨n, rfl⟩ : ∃ n : Nat, x = n := ⟨x.toNat, by omega⟩
  exact or_i32 30 n 3 240 rfl (by omega) (by omega) (by omega)
set_option maxRecDepth 100000 in
set_option maxHeartbeats 4000000 in
theorem pr27_1 (w : World) (B : Nat) (v : Value) (q0 : List Int) (c : Int) (h0 : 0 ≤ c) (h1 : c ≤ 127) (hO : OwnB w B v q0) (hB : B ≤ w.heap.size) (hxs : q0.length ≤ 4194304) :
    Calls Tryd.prog 27 #[v, .int .i32 c] w fun e w' => ∃ v', e = .returned v' ∧ OwnB w' B v' (q0 ++ encodeRuneZ c) ∧ Below B w w' := by
  obtain ⟨i0, hin, hz0, hz1, hz2⟩ := info_parts infoB
  have O0 := Lib.hid hO; have HB := Lib.hid hB; have HZ0 := Lib.hid hB; have K0 := Lib.hid ((Below.refl w.heap.size w).mono hB)
  obtain ⟨q1, hq1⟩ : ∃ q, q0 ++ [c] = q := ⟨_, rfl⟩
  have hl1 : q1.length = q0.length + 1 := by rw [← hq1]; simp
  have HEQ := Lib.hid (show q0 ++ encodeRuneZ c = q1 by rw [encodeRuneZ_one h0 h1, ← hq1]; (try simp))
  have HQ1 := Lib.hid hq1
  have hn1 : q1.length ≤ 4194304 + 1 := by omega
  have HA0 := Lib.hid (World.ownsRow.alloc hO (.cells #[.int .u8 c] 5))
  clear hO hB hq1 hl1
  go_enter Tryd.func27, Tryd.ntmps27
  go_wp2_with (first | (at_builtin; refine wpList_append_own _ rfl _ _ 38 rfl B 5 i0 (.int .u8 0) 1 1 Tryd.underlying38 hin hz0 hz1 hz2 rfl (by decide) v q0.length (cellsB q0) rfl HA0.out ⟨w.heap.size, 0, none⟩ 1 1 [.int .u8 c] rfl rfl (cell_one _ _ _) (by intro u hu; simp at hu; subst hu; rfl) (by unfold maxLen; omega) (by omega) (by have := HZ0.out; simp; omega) ?_; intro v1 w1 hown1 hg1 hnil1; have O1 := Lib.hid (show OwnB w1 B v1 q1 by rw [← HQ1.out]; exact own_appB hown1); have K1 := Lib.hid (K0.out.trans ((below_alloc1 w B HZ0.out _).trans (below_grown hg1 B (by have := HZ0.out; simp; omega) O0.out.lt))); have HZ1 := Lib.hid (Nat.le_trans HB.out K1.out.size); clear hown1 hg1 hnil1 HA0))
  go_ret
  exact ⟨_, rfl, by rw [HEQ.out]; exact O1.out, K1.out⟩
set_option maxRecDepth 100000 in
set_option maxHeartbeats 4000000 in
theorem pr27_2 (w : World) (B : Nat) (v : Value) (q0 : List Int) (c : Int) (h0 : 128 ≤ c) (h1 : c ≤ 2047) (hO : OwnB w B v q0) (hB : B ≤ w.heap.size) (hxs : q0.length ≤ 4194304) :
    Calls Tryd.prog 27 #[v, .int .i32 c] w fun e w' => ∃ v', e = .returned v' ∧ OwnB w' B v' (q0 ++ encodeRuneZ c) ∧ Below B w w' := by
  obtain ⟨i0, hin, hz0, hz1, hz2⟩ := info_parts infoB
  have O0 := Lib.hid hO; have HB := Lib.hid hB; have HZ0 := Lib.hid hB; have K0 := Lib.hid ((Below.refl w.heap.size w).mono hB)
  have t1 : decide (c < 0) = false := by simp; omega
  have t2 : decide (1114111 < c) = false := by simp; omega
  have u1 : decide (c < 128) = false := by simp; omega
  have t3 : decide (55296 ≤ c) = false := by simp; omega
  have u2 : decide (c < 2048) = true := by simp; omega
  have hc0 : 0 ≤ c := by omega
  obtain ⟨x0, hx0⟩ : ∃ x : Int, 192 + c / 64 = x := ⟨_, rfl⟩
  have ax0 : 0 ≤ x0 := by omega
  have bx0 : x0 ≤ 255 := by omega
  obtain ⟨x1, hx1⟩ : ∃ x : Int, 128 + c % 64 = x := ⟨_, rfl⟩
  have ax1 : 0 ≤ x1 := by omega
  have bx1 : x1 ≤ 255 := by omega
  obtain ⟨m0, hm0⟩ : ∃ x : Int, c % 64 = x := ⟨_, rfl⟩
  have am0 : 0 ≤ m0 := by omega
  have bm0 : m0 ≤ 63 := by omega
  have o1 : bits .or .i32 192 (c / 64) = x0 := by rw [or192 _ (by omega) (by omega)]; exact hx0
  have o2 : bits .and .i32 c 63 = m0 := by rw [and63 _ (by omega) (by omega)]; exact hm0
  have o3 : bits .or .i32 128 m0 = x1 := by rw [or128 _ (by omega) (by omega)]; omega
  obtain ⟨q1, hq1⟩ : ∃ q, q0 ++ [x0] = q := ⟨_, rfl⟩
  have hl1 : q1.length = q0.length + 1 := by rw [← hq1]; simp
  obtain ⟨q2, hq2⟩ : ∃ q, q1 ++ [x1] = q := ⟨_, rfl⟩
  have hl2 : q2.length = q1.length + 1 := by rw [← hq2]; simp
  have HEQ := Lib.hid (show q0 ++ encodeRuneZ c = q2 by rw [encodeRuneZ_two h0 h1, hx0, hx1, ← hq2, ← hq1]; (try simp))
  have HQ1 := Lib.hid hq1; have HQ2 := Lib.hid hq2
  have hn1 : q1.length ≤ 4194304 + 1 := by omega
  have hn2 : q2.length ≤ 4194304 + 2 := by omega
  have HA0 := Lib.hid (World.ownsRow.alloc hO (.cells #[.int .u8 x0] 5))
  clear hO hB hq1 hl1 hq2 hl2
  clear h0 h1 hx0 hx1 hm0
  go_enter Tryd.func27, Tryd.ntmps27
  go_wp2_with (first | (at_builtin; refine wpList_append_own _ rfl _ _ 38 rfl B 5 i0 (.int .u8 0) 1 1 Tryd.underlying38 hin hz0 hz1 hz2 rfl (by decide) v q0.length (cellsB q0) rfl HA0.out ⟨w.heap.size, 0, none⟩ 1 1 [.int .u8 x0] rfl rfl (cell_one _ _ _) (by intro u hu; simp at hu; subst hu; rfl) (by unfold maxLen; omega) (by omega) (by have := HZ0.out; simp; omega) ?_; intro v1 w1 hown1 hg1 hnil1; have O1 := Lib.hid (show OwnB w1 B v1 q1 by rw [← HQ1.out]; exact own_appB hown1); have K1 := Lib.hid (K0.out.trans ((below_alloc1 w B HZ0.out _).trans (below_grown hg1 B (by have := HZ0.out; simp; omega) O0.out.lt))); have HZ1 := Lib.hid (Nat.le_trans HB.out K1.out.size); clear hown1 hg1 hnil1 HA0; have HA1 := Lib.hid (World.ownsRow.alloc O1.out (.cells #[.int .u8 x1] 5))) | (at_builtin; refine wpList_append_own _ rfl _ _ 38 rfl B 5 i0 (.int .u8 0) 1 1 Tryd.underlying38 hin hz0 hz1 hz2 rfl (by decide) v1 q1.length (cellsB q1) rfl HA1.out ⟨w1.heap.size, 0, none⟩ 1 1 [.int .u8 x1] rfl rfl (cell_one _ _ _) (by intro u hu; simp at hu; subst hu; rfl) (by unfold maxLen; omega) (by omega) (by have := HZ1.out; simp; omega) ?_; intro v2 w2 hown1 hg1 hnil1; have O2 := Lib.hid (show OwnB w2 B v2 q2 by rw [← HQ2.out]; exact own_appB hown1); have K2 := Lib.hid (K1.out.trans ((below_alloc1 w1 B HZ1.out _).trans (below_grown hg1 B (by have := HZ1.out; simp; omega) O1.out.lt))); have HZ2 := Lib.hid (Nat.le_trans HB.out K2.out.size); clear hown1 hg1 hnil1 HA1))
  go_ret
  exact ⟨_, rfl, by rw [HEQ.out]; exact O2.out, K2.out⟩
set_option maxRecDepth 100000 in
set_option maxHeartbeats 4000000 in
theorem pr27_3a (w : World) (B : Nat) (v : Value) (q0 : List Int) (c : Int) (h0 : 2048 ≤ c) (h1 : c < 55296) (hO : OwnB w B v q0) (hB : B ≤ w.heap.size) (hxs : q0.length ≤ 4194304) :
    Calls Tryd.prog 27 #[v, .int .i32 c] w fun e w' => ∃ v', e = .returned v' ∧ OwnB w' B v' (q0 ++ encodeRuneZ c) ∧ Below B w w' := by
  obtain ⟨i0, hin, hz0, hz1, hz2⟩ := info_parts infoB
  have O0 := Lib.hid hO; have HB := Lib.hid hB; have HZ0 := Lib.hid hB; have K0 := Lib.hid ((Below.refl w.heap.size w).mono hB)
  have t1 : decide (c < 0) = false := by simp; omega
  have t2 : decide (1114111 < c) = false := by simp; omega
  have u1 : decide (c < 128) = false := by simp; omega
  have t3 : decide (55296 ≤ c) = false := by simp; omega
  have u2 : decide (c < 2048) = false := by simp; omega
  have u3 : decide (c < 65536) = true := by simp; omega
  have hc0 : 0 ≤ c := by omega
  obtain ⟨x0, hx0⟩ : ∃ x : Int, 224 + c / 4096 = x := ⟨_, rfl⟩
  have ax0 : 0 ≤ x0 := by omega
  have bx0 : x0 ≤ 255 := by omega
  obtain ⟨x1, hx1⟩ : ∃ x : Int, 128 + c / 64 % 64 = x := ⟨_, rfl⟩
  have ax1 : 0 ≤ x1 := by omega
  have bx1 : x1 ≤ 255 := by omega
  obtain ⟨x2, hx2⟩ : ∃ x : Int, 128 + c % 64 = x := ⟨_, rfl⟩
  have ax2 : 0 ≤ x2 := by omega
  have bx2 : x2 ≤ 255 := by omega
  obtain ⟨m1, hm1⟩ : ∃ x : Int, c / 64 % 64 = x := ⟨_, rfl⟩
  have am1 : 0 ≤ m1 := by omega
  have bm1 : m1 ≤ 63 := by omega
  obtain ⟨m0, hm0⟩ : ∃ x : Int, c % 64 = x := ⟨_, rfl⟩
  have am0 : 0 ≤ m0 := by omega
  have bm0 : m0 ≤ 63 := by omega
  have o1 : bits .or .i32 224 (c / 4096) = x0 := by rw [or224 _ (by omega) (by omega)]; exact hx0
  have o2 : bits .and .i32 (c / 64) 63 = m1 := by rw [and63 _ (by omega) (by omega)]; exact hm1
  have o3 : bits .or .i32 128 m1 = x1 := by rw [or128 _ (by omega) (by omega)]; omega
  have o4 : bits .and .i32 c 63 = m0 := by rw [and63 _ (by omega) (by omega)]; exact hm0
  have o5 : bits .or .i32 128 m0 = x2 := by rw [or128 _ (by omega) (by omega)]; omega
  obtain ⟨q1, hq1⟩ : ∃ q, q0 ++ [x0] = q := ⟨_, rfl⟩
  have hl1 : q1.length = q0.length + 1 := by rw [← hq1]; simp
  obtain ⟨q2, hq2⟩ : ∃ q, q1 ++ [x1] = q := ⟨_, rfl⟩
  have hl2 : q2.length = q1.length + 1 := by rw [← hq2]; simp
  obtain ⟨q3, hq3⟩ : ∃ q, q2 ++ [x2] = q := ⟨_, rfl⟩
  have hl3 : q3.length = q2.length + 1 := by rw [← hq3]; simp
  have HEQ := Lib.hid (show q0 ++ encodeRuneZ c = q3 by rw [encodeRuneZ_three (by omega), hx0, hx1, hx2, ← hq3, ← hq2, ← hq1]; (try simp))
  have HQ1 := Lib.hid hq1; have HQ2 := Lib.hid hq2; have HQ3 := Lib.hid hq3
  have hn1 : q1.length ≤ 4194304 + 1 := by omega
  have hn2 : q2.length ≤ 4194304 + 2 := by omega
  have hn3 : q3.length ≤ 4194304 + 3 := by omega
  have HA0 := Lib.hid (World.ownsRow.alloc hO (.cells #[.int .u8 x0] 5))
  clear hO hB hq1 hl1 hq2 hl2 hq3 hl3
  clear h0 h1 hx0 hx1 hx2 hm1 hm0
  go_enter Tryd.func27, Tryd.ntmps27
  go_wp2_with (first | (at_builtin; refine wpList_append_own _ rfl _ _ 38 rfl B 5 i0 (.int .u8 0) 1 1 Tryd.underlying38 hin hz0 hz1 hz2 rfl (by decide) v q0.length (cellsB q0) rfl HA0.out ⟨w.heap.size, 0, none⟩ 1 1 [.int .u8 x0] rfl rfl (cell_one _ _ _) (by intro u hu; simp at hu; subst hu; rfl) (by unfold maxLen; omega) (by omega) (by have := HZ0.out; simp; omega) ?_; intro v1 w1 hown1 hg1 hnil1; have O1 := Lib.hid (show OwnB w1 B v1 q1 by rw [← HQ1.out]; exact own_appB hown1); have K1 := Lib.hid (K0.out.trans ((below_alloc1 w B HZ0.out _).trans (below_grown hg1 B (by have := HZ0.out; simp; omega) O0.out.lt))); have HZ1 := Lib.hid (Nat.le_trans HB.out K1.out.size); clear hown1 hg1 hnil1 HA0; have HA1 := Lib.hid (World.ownsRow.alloc O1.out (.cells #[.int .u8 x1] 5))) | (at_builtin; refine wpList_append_own _ rfl _ _ 38 rfl B 5 i0 (.int .u8 0) 1 1 Tryd.underlying38 hin hz0 hz1 hz2 rfl (by decide) v1 q1.length (cellsB q1) rfl HA1.out ⟨w1.heap.size, 0, none⟩ 1 1 [.int .u8 x1] rfl rfl (cell_one _ _ _) (by intro u hu; simp at hu; subst hu; rfl) (by unfold maxLen; omega) (by omega) (by have := HZ1.out; simp; omega) ?_; intro v2 w2 hown1 hg1 hnil1; have O2 := Lib.hid (show OwnB w2 B v2 q2 by rw [← HQ2.out]; exact own_appB hown1); have K2 := Lib.hid (K1.out.trans ((below_alloc1 w1 B HZ1.out _).trans (below_grown hg1 B (by have := HZ1.out; simp; omega) O1.out.lt))); have HZ2 := Lib.hid (Nat.le_trans HB.out K2.out.size); clear hown1 hg1 hnil1 HA1; have HA2 := Lib.hid (World.ownsRow.alloc O2.out (.cells #[.int .u8 x2] 5))) | (at_builtin; refine wpList_append_own _ rfl _ _ 38 rfl B 5 i0 (.int .u8 0) 1 1 Tryd.underlying38 hin hz0 hz1 hz2 rfl (by decide) v2 q2.length (cellsB q2) rfl HA2.out ⟨w2.heap.size, 0, none⟩ 1 1 [.int .u8 x2] rfl rfl (cell_one _ _ _) (by intro u hu; simp at hu; subst hu; rfl) (by unfold maxLen; omega) (by omega) (by have := HZ2.out; simp; omega) ?_; intro v3 w3 hown1 hg1 hnil1; have O3 := Lib.hid (show OwnB w3 B v3 q3 by rw [← HQ3.out]; exact own_appB hown1); have K3 := Lib.hid (K2.out.trans ((below_alloc1 w2 B HZ2.out _).trans (below_grown hg1 B (by have := HZ2.out; simp; omega) O2.out.lt))); have HZ3 := Lib.hid (Nat.le_trans HB.out K3.out.size); clear hown1 hg1 hnil1 HA2))
  go_ret
  exact ⟨_, rfl, by rw [HEQ.out]; exact O3.out, K3.out⟩
set_option maxRecDepth 100000 in
set_option maxHeartbeats 4000000 in
theorem pr27_3b (w : World) (B : Nat) (v : Value) (q0 : List Int) (c : Int) (h0 : 57343 < c) (h1 : c ≤ 65535) (hO : OwnB w B v q0) (hB : B ≤ w.heap.size) (hxs : q0.length ≤ 4194304) :
    Calls Tryd.prog 27 #[v, .int .i32 c] w fun e w' => ∃ v', e = .returned v' ∧ OwnB w' B v' (q0 ++ encodeRuneZ c) ∧ Below B w w' := by
  obtain ⟨i0, hin, hz0, hz1, hz2⟩ := info_parts infoB
  have O0 := Lib.hid hO; have HB := Lib.hid hB; have HZ0 := Lib.hid hB; have K0 := Lib.hid ((Below.refl w.heap.size w).mono hB)
  have t1 : decide (c < 0) = false := by simp; omega
  have t2 : decide (1114111 < c) = false := by simp; omega
  have u1 : decide (c < 128) = false := by simp; omega
  have t3 : decide (55296 ≤ c) = true := by simp; omega
  have t4 : decide (c ≤ 57343) = false := by simp; omega
  have u2 : decide (c < 2048) = false := by simp; omega
  have u3 : decide (c < 65536) = true := by simp; omega
  have hc0 : 0 ≤ c := by omega
  obtain ⟨x0, hx0⟩ : ∃ x : Int, 224 + c / 4096 = x := ⟨_, rfl⟩
  have ax0 : 0 ≤ x0 := by omega
  have bx0 : x0 ≤ 255 := by omega
  obtain ⟨x1, hx1⟩ : ∃ x : Int, 128 + c / 64 % 64 = x := ⟨_, rfl⟩
  have ax1 : 0 ≤ x1 := by omega
  have bx1 : x1 ≤ 255 := by omega
  obtain ⟨x2, hx2⟩ : ∃ x : Int, 128 + c % 64 = x := ⟨_, rfl⟩
  have ax2 : 0 ≤ x2 := by omega
  have bx2 : x2 ≤ 255 := by omega
  obtain ⟨m1, hm1⟩ : ∃ x : Int, c / 64 % 64 = x := ⟨_, rfl⟩
  have am1 : 0 ≤ m1 := by omega
  have bm1 : m1 ≤ 63 := by omega
  obtain ⟨m0, hm0⟩ : ∃ x : Int, c % 64 = x := ⟨_, rfl⟩
  have am0 : 0 ≤ m0 := by omega
  have bm0 : m0 ≤ 63 := by omega
  have o1 : bits .or .i32 224 (c / 4096) = x0 := by rw [or224 _ (by omega) (by omega)]; exact hx0
  have o2 : bits .and .i32 (c / 64) 63 = m1 := by rw [and63 _ (by omega) (by omega)]; exact hm1
  have o3 : bits .or .i32 128 m1 = x1 := by rw [or128 _ (by omega) (by omega)]; omega
  have o4 : bits .and .i32 c 63 = m0 := by rw [and63 _ (by omega) (by omega)]; exact hm0
  have o5 : bits .or .i32 128 m0 = x2 := by rw [or128 _ (by omega) (by omega)]; omega
  obtain ⟨q1, hq1⟩ : ∃ q, q0 ++ [x0] = q := ⟨_, rfl⟩
  have hl1 : q1.length = q0.length + 1 := by rw [← hq1]; simp
  obtain ⟨q2, hq2⟩ : ∃ q, q1 ++ [x1] = q := ⟨_, rfl⟩
  have hl2 : q2.length = q1.length + 1 := by rw [← hq2]; simp
  obtain ⟨q3, hq3⟩ : ∃ q, q2 ++ [x2] = q := ⟨_, rfl⟩
  have hl3 : q3.length = q2.length + 1 := by rw [← hq3]; simp
  have HEQ := Lib.hid (show q0 ++ encodeRuneZ c = q3 by rw [encodeRuneZ_three (by omega), hx0, hx1, hx2, ← hq3, ← hq2, ← hq1]; (try simp))
  have HQ1 := Lib.hid hq1; have HQ2 := Lib.hid hq2; have HQ3 := Lib.hid hq3
  have hn1 : q1.length ≤ 4194304 + 1 := by omega
  have hn2 : q2.length ≤ 4194304 + 2 := by omega
  have hn3 : q3.length ≤ 4194304 + 3 := by omega
  have HA0 := Lib.hid (World.ownsRow.alloc hO (.cells #[.int .u8 x0] 5))
  clear hO hB hq1 hl1 hq2 hl2 hq3 hl3
  clear h0 h1 hx0 hx1 hx2 hm1 hm0
  go_enter Tryd.func27, Tryd.ntmps27
  go_wp2_with (first | (at_builtin; refine wpList_append_own _ rfl _ _ 38 rfl B 5 i0 (.int .u8 0) 1 1 Tryd.underlying38 hin hz0 hz1 hz2 rfl (by decide) v q0.length (cellsB q0) rfl HA0.out ⟨w.heap.size, 0, none⟩ 1 1 [.int .u8 x0] rfl rfl (cell_one _ _ _) (by intro u hu; simp at hu; subst hu; rfl) (by unfold maxLen; omega) (by omega) (by have := HZ0.out; simp; omega) ?_; intro v1 w1 hown1 hg1 hnil1; have O1 := Lib.hid (show OwnB w1 B v1 q1 by rw [← HQ1.out]; exact own_appB hown1); have K1 := Lib.hid (K0.out.trans ((below_alloc1 w B HZ0.out _).trans (below_grown hg1 B (by have := HZ0.out; simp; omega) O0.out.lt))); have HZ1 := Lib.hid (Nat.le_trans HB.out K1.out.size); clear hown1 hg1 hnil1 HA0; have HA1 := Lib.hid (World.ownsRow.alloc O1.out (.cells #[.int .u8 x1] 5))) | (at_builtin; refine wpList_append_own _ rfl _ _ 38 rfl B 5 i0 (.int .u8 0) 1 1 Tryd.underlying38 hin hz0 hz1 hz2 rfl (by decide) v1 q1.length (cellsB q1) rfl HA1.out ⟨w1.heap.size, 0, none⟩ 1 1 [.int .u8 x1] rfl rfl (cell_one _ _ _) (by intro u hu; simp at hu; subst hu; rfl) (by unfold maxLen; omega) (by omega) (by have := HZ1.out; simp; omega) ?_; intro v2 w2 hown1 hg1 hnil1; have O2 := Lib.hid (show OwnB w2 B v2 q2 by rw [← HQ2.out]; exact own_appB hown1); have K2 := Lib.hid (K1.out.trans ((below_alloc1 w1 B HZ1.out _).trans (below_grown hg1 B (by have := HZ1.out; simp; omega) O1.out.lt))); have HZ2 := Lib.hid (Nat.le_trans HB.out K2.out.size); clear hown1 hg1 hnil1 HA1; have HA2 := Lib.hid (World.ownsRow.alloc O2.out (.cells #[.int .u8 x2] 5))) | (at_builtin; refine wpList_append_own _ rfl _ _ 38 rfl B 5 i0 (.int .u8 0) 1 1 Tryd.underlying38 hin hz0 hz1 hz2 rfl (by decide) v2 q2.length (cellsB q2) rfl HA2.out ⟨w2.heap.size, 0, none⟩ 1 1 [.int .u8 x2] rfl rfl (cell_one _ _ _) (by intro u hu; simp at hu; subst hu; rfl) (by unfold maxLen; omega) (by omega) (by have := HZ2.out; simp; omega) ?_; intro v3 w3 hown1 hg1 hnil1; have O3 := Lib.hid (show OwnB w3 B v3 q3 by rw [← HQ3.out]; exact own_appB hown1); have K3 := Lib.hid (K2.out.trans ((below_alloc1 w2 B HZ2.out _).trans (below_grown hg1 B (by have := HZ2.out; simp; omega) O2.out.lt))); have HZ3 := Lib.hid (Nat.le_trans HB.out K3.out.size); clear hown1 hg1 hnil1 HA2))
  go_ret
  exact ⟨_, rfl, by rw [HEQ.out]; exact O3.out, K3.out⟩
set_option maxRecDepth 100000 in
set_option maxHeartbeats 4000000 in
theorem pr27_4 (w : World) (B : Nat) (v : Value) (q0 : List Int) (c : Int) (h0 : 65536 ≤ c) (h1 : c ≤ 1114111) (hO : OwnB w B v q0) (hB : B ≤ w.heap.size) (hxs : q0.length ≤ 4194304) :
    Calls Tryd.prog 27 #[v, .int .i32 c] w fun e w' => ∃ v', e = .returned v' ∧ OwnB w' B v' (q0 ++ encodeRuneZ c) ∧ Below B w w' := by
  obtain ⟨i0, hin, hz0, hz1, hz2⟩ := info_parts infoB
  have O0 := Lib.hid hO; have HB := Lib.hid hB; have HZ0 := Lib.hid hB; have K0 := Lib.hid ((Below.refl w.heap.size w).mono hB)
  have t1 : decide (c < 0) = false := by simp; omega
  have t2 : decide (1114111 < c) = false := by simp; omega
  have u1 : decide (c < 128) = false := by simp; omega
  have t3 : decide (55296 ≤ c) = true := by simp; omega
  have t4 : decide (c ≤ 57343) = false := by simp; omega
  have u2 : decide (c < 2048) = false := by simp; omega
  have u3 : decide (c < 65536) = false := by simp; omega
  have hc0 : 0 ≤ c := by omega
  obtain ⟨x0, hx0⟩ : ∃ x : Int, 240 + c / 262144 = x := ⟨_, rfl⟩
  have ax0 : 0 ≤ x0 := by omega
  have bx0 : x0 ≤ 255 := by omega
  obtain ⟨x1, hx1⟩ : ∃ x : Int, 128 + c / 4096 % 64 = x := ⟨_, rfl⟩
  have ax1 : 0 ≤ x1 := by omega
  have bx1 : x1 ≤ 255 := by omega
  obtain ⟨x2, hx2⟩ : ∃ x : Int, 128 + c / 64 % 64 = x := ⟨_, rfl⟩
  have ax2 : 0 ≤ x2 := by omega
  have bx2 : x2 ≤ 255 := by omega
  obtain ⟨x3, hx3⟩ : ∃ x : Int, 128 + c % 64 = x := ⟨_, rfl⟩
  have ax3 : 0 ≤ x3 := by omega
  have bx3 : x3 ≤ 255 := by omega
  obtain ⟨m2, hm2⟩ : ∃ x : Int, c / 4096 % 64 = x := ⟨_, rfl⟩
  have am2 : 0 ≤ m2 := by omega
  have bm2 : m2 ≤ 63 := by omega
  obtain ⟨m1, hm1⟩ : ∃ x : Int, c / 64 % 64 = x := ⟨_, rfl⟩
  have am1 : 0 ≤ m1 := by omega
  have bm1 : m1 ≤ 63 := by omega
  obtain ⟨m0, hm0⟩ : ∃ x : Int, c % 64 = x := ⟨_, rfl⟩
  have am0 : 0 ≤ m0 := by omega
  have bm0 : m0 ≤ 63 := by omega
  have o1 : bits .or .i32 240 (c / 262144) = x0 := by rw [or240 _ (by omega) (by omega)]; exact hx0
  have o6 : bits .and .i32 (c / 4096) 63 = m2 := by rw [and63 _ (by omega) (by omega)]; exact hm2
  have o7 : bits .or .i32 128 m2 = x1 := by rw [or128 _ (by omega) (by omega)]; omega
  have o2 : bits .and .i32 (c / 64) 63 = m1 := by rw [and63 _ (by omega) (by omega)]; exact hm1
  have o3 : bits .or .i32 128 m1 = x2 := by rw [or128 _ (by omega) (by omega)]; omega
  have o4 : bits .and .i32 c 63 = m0 := by rw [and63 _ (by omega) (by omega)]; exact hm0
  have o5 : bits .or .i32 128 m0 = x3 := by rw [or128 _ (by omega) (by omega)]; omega
  obtain ⟨q1, hq1⟩ : ∃ q, q0 ++ [x0] = q := ⟨_, rfl⟩
  have hl1 : q1.length = q0.length + 1 := by rw [← hq1]; simp
  obtain ⟨q2, hq2⟩ : ∃ q, q1 ++ [x1] = q := ⟨_, rfl⟩
  have hl2 : q2.length = q1.length + 1 := by rw [← hq2]; simp
  obtain ⟨q3, hq3⟩ : ∃ q, q2 ++ [x2] = q := ⟨_, rfl⟩
  have hl3 : q3.length = q2.length + 1 := by rw [← hq3]; simp
  obtain ⟨q4, hq4⟩ : ∃ q, q3 ++ [x3] = q := ⟨_, rfl⟩
  have hl4 : q4.length = q3.length + 1 := by rw [← hq4]; simp
  have HEQ := Lib.hid (show q0 ++ encodeRuneZ c = q4 by rw [encodeRuneZ_four h0 h1, hx0, hx1, hx2, hx3, ← hq4, ← hq3, ← hq2, ← hq1]; (try simp))
  have HQ1 := Lib.hid hq1; have HQ2 := Lib.hid hq2; have HQ3 := Lib.hid hq3; have HQ4 := Lib.hid hq4
  have hn1 : q1.length ≤ 4194304 + 1 := by omega
  have hn2 : q2.length ≤ 4194304 + 2 := by omega
  have hn3 : q3.length ≤ 4194304 + 3 := by omega
  have hn4 : q4.length ≤ 4194304 + 4 := by omega
  have HA0 := Lib.hid (World.ownsRow.alloc hO (.cells #[.int .u8 x0] 5))
  clear hO hB hq1 hl1 hq2 hl2 hq3 hl3 hq4 hl4
  clear h0 h1 hx0 hx1 hx2 hx3 hm2 hm1 hm0
  go_enter Tryd.func27, Tryd.ntmps27
  go_wp2_with (first | (at_builtin; refine wpList_append_own _ rfl _ _ 38 rfl B 5 i0 (.int .u8 0) 1 1 Tryd.underlying38 hin hz0 hz1 hz2 rfl (by decide) v q0.length (cellsB q0) rfl HA0.out ⟨w.heap.size, 0, none⟩ 1 1 [.int .u8 x0] rfl rfl (cell_one _ _ _) (by intro u hu; simp at hu; subst hu; rfl) (by unfold maxLen; omega) (by omega) (by have := HZ0.out; simp; omega) ?_; intro v1 w1 hown1 hg1 hnil1; have O1 := Lib.hid (show OwnB w1 B v1 q1 by rw [← HQ1.out]; exact own_appB hown1); have K1 := Lib.hid (K0.out.trans ((below_alloc1 w B HZ0.out _).trans (below_grown hg1 B (by have := HZ0.out; simp; omega) O0.out.lt))); have HZ1 := Lib.hid (Nat.le_trans HB.out K1.out.size); clear hown1 hg1 hnil1 HA0; have HA1 := Lib.hid (World.ownsRow.alloc O1.out (.cells #[.int .u8 x1] 5))) | (at_builtin; refine wpList_append_own _ rfl _ _ 38 rfl B 5 i0 (.int .u8 0) 1 1 Tryd.underlying38 hin hz0 hz1 hz2 rfl (by decide) v1 q1.length (cellsB q1) rfl HA1.out ⟨w1.heap.size, 0, none⟩ 1 1 [.int .u8 x1] rfl rfl (cell_one _ _ _) (by intro u hu; simp at hu; subst hu; rfl) (by unfold maxLen; omega) (by omega) (by have := HZ1.out; simp; omega) ?_; intro v2 w2 hown1 hg1 hnil1; have O2 := Lib.hid (show OwnB w2 B v2 q2 by rw [← HQ2.out]; exact own_appB hown1); have K2 := Lib.hid (K1.out.trans ((below_alloc1 w1 B HZ1.out _).trans (below_grown hg1 B (by have := HZ1.out; simp; omega) O1.out.lt))); have HZ2 := Lib.hid (Nat.le_trans HB.out K2.out.size); clear hown1 hg1 hnil1 HA1; have HA2 := Lib.hid (World.ownsRow.alloc O2.out (.cells #[.int .u8 x2] 5))) | (at_builtin; refine wpList_append_own _ rfl _ _ 38 rfl B 5 i0 (.int .u8 0) 1 1 Tryd.underlying38 hin hz0 hz1 hz2 rfl (by decide) v2 q2.length (cellsB q2) rfl HA2.out ⟨w2.heap.size, 0, none⟩ 1 1 [.int .u8 x2] rfl rfl (cell_one _ _ _) (by intro u hu; simp at hu; subst hu; rfl) (by unfold maxLen; omega) (by omega) (by have := HZ2.out; simp; omega) ?_; intro v3 w3 hown1 hg1 hnil1; have O3 := Lib.hid (show OwnB w3 B v3 q3 by rw [← HQ3.out]; exact own_appB hown1); have K3 := Lib.hid (K2.out.trans ((below_alloc1 w2 B HZ2.out _).trans (below_grown hg1 B (by have := HZ2.out; simp; omega) O2.out.lt))); have HZ3 := Lib.hid (Nat.le_trans HB.out K3.out.size); clear hown1 hg1 hnil1 HA2; have HA3 := Lib.hid (World.ownsRow.alloc O3.out (.cells #[.int .u8 x3] 5))) | (at_builtin; refine wpList_append_own _ rfl _ _ 38 rfl B 5 i0 (.int .u8 0) 1 1 Tryd.underlying38 hin hz0 hz1 hz2 rfl (by decide) v3 q3.length (cellsB q3) rfl HA3.out ⟨w3.heap.size, 0, none⟩ 1 1 [.int .u8 x3] rfl rfl (cell_one _ _ _) (by intro u hu; simp at hu; subst hu; rfl) (by unfold maxLen; omega) (by omega) (by have := HZ3.out; simp; omega) ?_; intro v4 w4 hown1 hg1 hnil1; have O4 := Lib.hid (show OwnB w4 B v4 q4 by rw [← HQ4.out]; exact own_appB hown1); have K4 := Lib.hid (K3.out.trans ((below_alloc1 w3 B HZ3.out _).trans (below_grown hg1 B (by have := HZ3.out; simp; omega) O3.out.lt))); have HZ4 := Lib.hid (Nat.le_trans HB.out K4.out.size); clear hown1 hg1 hnil1 HA3))
  go_ret
  exact ⟨_, rfl, by rw [HEQ.out]; exact O4.out, K4.out⟩
set_option maxRecDepth 100000 in
set_option maxHeartbeats 4000000 in
theorem pr27_5a (w : World) (B : Nat) (v : Value) (q0 : List Int) (c : Int) (h0 : c < 0) (hO : OwnB w B v q0) (hB : B ≤ w.heap.size) (hxs : q0.length ≤ 4194304) :
    Calls Tryd.prog 27 #[v, .int .i32 c] w fun e w' => ∃ v', e = .returned v' ∧ OwnB w' B v' (q0 ++ encodeRuneZ c) ∧ Below B w w' := by
  obtain ⟨i0, hin, hz0, hz1, hz2⟩ := info_parts infoB
  have O0 := Lib.hid hO; have HB := Lib.hid hB; have HZ0 := Lib.hid hB; have K0 := Lib.hid ((Below.refl w.heap.size w).mono hB)
  have o1 : bits .or .i32 224 15 = 239 := by decide
  have o2 : bits .and .i32 1023 63 = 63 := by decide
  have o3 : bits .or .i32 128 63 = 191 := by decide
  have o4 : bits .and .i32 65533 63 = 61 := by decide
  have o5 : bits .or .i32 128 61 = 189 := by decide
  have t1 : decide (c < 0) = true := by simp; omega
  obtain ⟨q1, hq1⟩ : ∃ q, q0 ++ [239] = q := ⟨_, rfl⟩
  have hl1 : q1.length = q0.length + 1 := by rw [← hq1]; simp
  obtain ⟨q2, hq2⟩ : ∃ q, q1 ++ [191] = q := ⟨_, rfl⟩
  have hl2 : q2.length = q1.length + 1 := by rw [← hq2]; simp
  obtain ⟨q3, hq3⟩ : ∃ q, q2 ++ [189] = q := ⟨_, rfl⟩
  have hl3 : q3.length = q2.length + 1 := by rw [← hq3]; simp
  have HEQ := Lib.hid (show q0 ++ encodeRuneZ c = q3 by rw [encodeRuneZ_bad (by omega), ← hq3, ← hq2, ← hq1]; (try simp))
  have HQ1 := Lib.hid hq1; have HQ2 := Lib.hid hq2; have HQ3 := Lib.hid hq3
  have hn1 : q1.length ≤ 4194304 + 1 := by omega
  have hn2 : q2.length ≤ 4194304 + 2 := by omega
  have hn3 : q3.length ≤ 4194304 + 3 := by omega
  have HA0 := Lib.hid (World.ownsRow.alloc hO (.cells #[.int .u8 239] 5))
  clear hO hB hq1 hl1 hq2 hl2 hq3 hl3
  clear h0
  go_enter Tryd.func27, Tryd.ntmps27
  go_wp2_with (first | (at_builtin; refine wpList_append_own _ rfl _ _ 38 rfl B 5 i0 (.int .u8 0) 1 1 Tryd.underlying38 hin hz0 hz1 hz2 rfl (by decide) v q0.length (cellsB q0) rfl HA0.out ⟨w.heap.size, 0, none⟩ 1 1 [.int .u8 239] rfl rfl (cell_one _ _ _) (by intro u hu; simp at hu; subst hu; rfl) (by unfold maxLen; omega) (by omega) (by have := HZ0.out; simp; omega) ?_; intro v1 w1 hown1 hg1 hnil1; have O1 := Lib.hid (show OwnB w1 B v1 q1 by rw [← HQ1.out]; exact own_appB hown1); have K1 := Lib.hid (K0.out.trans ((below_alloc1 w B HZ0.out _).trans (below_grown hg1 B (by have := HZ0.out; simp; omega) O0.out.lt))); have HZ1 := Lib.hid (Nat.le_trans HB.out K1.out.size); clear hown1 hg1 hnil1 HA0; have HA1 := Lib.hid (World.ownsRow.alloc O1.out (.cells #[.int .u8 191] 5))) | (at_builtin; refine wpList_append_own _ rfl _ _ 38 rfl B 5 i0 (.int .u8 0) 1 1 Tryd.underlying38 hin hz0 hz1 hz2 rfl (by decide) v1 q1.length (cellsB q1) rfl HA1.out ⟨w1.heap.size, 0, none⟩ 1 1 [.int .u8 191] rfl rfl (cell_one _ _ _) (by intro u hu; simp at hu; subst hu; rfl) (by unfold maxLen; omega) (by omega) (by have := HZ1.out; simp; omega) ?_; intro v2 w2 hown1 hg1 hnil1; have O2 := Lib.hid (show OwnB w2 B v2 q2 by rw [← HQ2.out]; exact own_appB hown1); have K2 := Lib.hid (K1.out.trans ((below_alloc1 w1 B HZ1.out _).trans (below_grown hg1 B (by have := HZ1.out; simp; omega) O1.out.lt))); have HZ2 := Lib.hid (Nat.le_trans HB.out K2.out.size); clear hown1 hg1 hnil1 HA1; have HA2 := Lib.hid (World.ownsRow.alloc O2.out (.cells #[.int .u8 189] 5))) | (at_builtin; refine wpList_append_own _ rfl _ _ 38 rfl B 5 i0 (.int .u8 0) 1 1 Tryd.underlying38 hin hz0 hz1 hz2 rfl (by decide) v2 q2.length (cellsB q2) rfl HA2.out ⟨w2.heap.size, 0, none⟩ 1 1 [.int .u8 189] rfl rfl (cell_one _ _ _) (by intro u hu; simp at hu; subst hu; rfl) (by unfold maxLen; omega) (by omega) (by have := HZ2.out; simp; omega) ?_; intro v3 w3 hown1 hg1 hnil1; have O3 := Lib.hid (show OwnB w3 B v3 q3 by rw [← HQ3.out]; exact own_appB hown1); have K3 := Lib.hid (K2.out.trans ((below_alloc1 w2 B HZ2.out _).trans (below_grown hg1 B (by have := HZ2.out; simp; omega) O2.out.lt))); have HZ3 := Lib.hid (Nat.le_trans HB.out K3.out.size); clear hown1 hg1 hnil1 HA2))
  go_ret
  exact ⟨_, rfl, by rw [HEQ.out]; exact O3.out, K3.out⟩
set_option maxRecDepth 100000 in
set_option maxHeartbeats 4000000 in
theorem pr27_5b (w : World) (B : Nat) (v : Value) (q0 : List Int) (c : Int) (h0 : 1114111 < c) (hO : OwnB w B v q0) (hB : B ≤ w.heap.size) (hxs : q0.length ≤ 4194304) :
    Calls Tryd.prog 27 #[v, .int .i32 c] w fun e w' => ∃ v', e = .returned v' ∧ OwnB w' B v' (q0 ++ encodeRuneZ c) ∧ Below B w w' := by
  obtain ⟨i0, hin, hz0, hz1, hz2⟩ := info_parts infoB
  have O0 := Lib.hid hO; have HB := Lib.hid hB; have HZ0 := Lib.hid hB; have K0 := Lib.hid ((Below.refl w.heap.size w).mono hB)
  have o1 : bits .or .i32 224 15 = 239 := by decide
  have o2 : bits .and .i32 1023 63 = 63 := by decide
  have o3 : bits .or .i32 128 63 = 191 := by decide
  have o4 : bits .and .i32 65533 63 = 61 := by decide
  have o5 : bits .or .i32 128 61 = 189 := by decide
  have t1 : decide (c < 0) = false := by simp; omega
  have t2 : decide (1114111 < c) = true := by simp; omega
  obtain ⟨q1, hq1⟩ : ∃ q, q0 ++ [239] = q := ⟨_, rfl⟩
  have hl1 : q1.length = q0.length + 1 := by rw [← hq1]; simp
  obtain ⟨q2, hq2⟩ : ∃ q, q1 ++ [191] = q := ⟨_, rfl⟩
  have hl2 : q2.length = q1.length + 1 := by rw [← hq2]; simp
  obtain ⟨q3, hq3⟩ : ∃ q, q2 ++ [189] = q := ⟨_, rfl⟩
  have hl3 : q3.length = q2.length + 1 := by rw [← hq3]; simp
  have HEQ := Lib.hid (show q0 ++ encodeRuneZ c = q3 by rw [encodeRuneZ_bad (by omega), ← hq3, ← hq2, ← hq1]; (try simp))
  have HQ1 := Lib.hid hq1; have HQ2 := Lib.hid hq2; have HQ3 := Lib.hid hq3
  have hn1 : q1.length ≤ 4194304 + 1 := by omega
  have hn2 : q2.length ≤ 4194304 + 2 := by omega
  have hn3 : q3.length ≤ 4194304 + 3 := by omega
  have HA0 := Lib.hid (World.ownsRow.alloc hO (.cells #[.int .u8 239] 5))
  clear hO hB hq1 hl1 hq2 hl2 hq3 hl3
  clear h0
  go_enter Tryd.func27, Tryd.ntmps27
  go_wp2_with (first | (at_builtin; refine wpList_append_own _ rfl _ _ 38 rfl B 5 i0 (.int .u8 0) 1 1 Tryd.underlying38 hin hz0 hz1 hz2 rfl (by decide) v q0.length (cellsB q0) rfl HA0.out ⟨w.heap.size, 0, none⟩ 1 1 [.int .u8 239] rfl rfl (cell_one _ _ _) (by intro u hu; simp at hu; subst hu; rfl) (by unfold maxLen; omega) (by omega) (by have := HZ0.out; simp; omega) ?_; intro v1 w1 hown1 hg1 hnil1; have O1 := Lib.hid (show OwnB w1 B v1 q1 by rw [← HQ1.out]; exact own_appB hown1); have K1 := Lib.hid (K0.out.trans ((below_alloc1 w B HZ0.out _).trans (below_grown hg1 B (by have := HZ0.out; simp; omega) O0.out.lt))); have HZ1 := Lib.hid (Nat.le_trans HB.out K1.out.size); clear hown1 hg1 hnil1 HA0; have HA1 := Lib.hid (World.ownsRow.alloc O1.out (.cells #[.int .u8 191] 5))) | (at_builtin; refine wpList_append_own _ rfl _ _ 38 rfl B 5 i0 (.int .u8 0) 1 1 Tryd.underlying38 hin hz0 hz1 hz2 rfl (by decide) v1 q1.length (cellsB q1) rfl HA1.out ⟨w1.heap.size, 0, none⟩ 1 1 [.int .u8 191] rfl rfl (cell_one _ _ _) (by intro u hu; simp at hu; subst hu; rfl) (by unfold maxLen; omega) (by omega) (by have := HZ1.out; simp; omega) ?_; intro v2 w2 hown1 hg1 hnil1; have O2 := Lib.hid (show OwnB w2 B v2 q2 by rw [← HQ2.out]; exact own_appB hown1); have K2 := Lib.hid (K1.out.trans ((below_alloc1 w1 B HZ1.out _).trans (below_grown hg1 B (by have := HZ1.out; simp; omega) O1.out.lt))); have HZ2 := Lib.hid (Nat.le_trans HB.out K2.out.size); clear hown1 hg1 hnil1 HA1; have HA2 := Lib.hid (World.ownsRow.alloc O2.out (.cells #[.int .u8 189] 5))) | (at_builtin; refine wpList_append_own _ rfl _ _ 38 rfl B 5 i0 (.int .u8 0) 1 1 Tryd.underlying38 hin hz0 hz1 hz2 rfl (by decide) v2 q2.length (cellsB q2) rfl HA2.out ⟨w2.heap.size, 0, none⟩ 1 1 [.int .u8 189] rfl rfl (cell_one _ _ _) (by intro u hu; simp at hu; subst hu; rfl) (by unfold maxLen; omega) (by omega) (by have := HZ2.out; simp; omega) ?_; intro v3 w3 hown1 hg1 hnil1; have O3 := Lib.hid (show OwnB w3 B v3 q3 by rw [← HQ3.out]; exact own_appB hown1); have K3 := Lib.hid (K2.out.trans ((below_alloc1 w2 B HZ2.out _).trans (below_grown hg1 B (by have := HZ2.out; simp; omega) O2.out.lt))); have HZ3 := Lib.hid (Nat.le_trans HB.out K3.out.size); clear hown1 hg1 hnil1 HA2))
  go_ret
  exact ⟨_, rfl, by rw [HEQ.out]; exact O3.out, K3.out⟩
set_option maxRecDepth 100000 in
set_option maxHeartbeats 4000000 in
theorem pr27_5c (w : World) (B : Nat) (v : Value) (q0 : List Int) (c : Int) (h0 : 55296 ≤ c) (h1 : c ≤ 57343) (hO : OwnB w B v q0) (hB : B ≤ w.heap.size) (hxs : q0.length ≤ 4194304) :
    Calls Tryd.prog 27 #[v, .int .i32 c] w fun e w' => ∃ v', e = .returned v' ∧ OwnB w' B v' (q0 ++ encodeRuneZ c) ∧ Below B w w' := by
  obtain ⟨i0, hin, hz0, hz1, hz2⟩ := info_parts infoB
  have O0 := Lib.hid hO; have HB := Lib.hid hB; have HZ0 := Lib.hid hB; have K0 := Lib.hid ((Below.refl w.heap.size w).mono hB)
  have o1 : bits .or .i32 224 15 = 239 := by decide
  have o2 : bits .and .i32 1023 63 = 63 := by decide
  have o3 : bits .or .i32 128 63 = 191 := by decide
  have o4 : bits .and .i32 65533 63 = 61 := by decide
  have o5 : bits .or .i32 128 61 = 189 := by decide
  have t1 : decide (c < 0) = false := by simp; omega
  have t2 : decide (1114111 < c) = false := by simp; omega
  have t3 : decide (55296 ≤ c) = true := by simp; omega
  have t4 : decide (c ≤ 57343) = true := by simp; omega
  obtain ⟨q1, hq1⟩ : ∃ q, q0 ++ [239] = q := ⟨_, rfl⟩
  have hl1 : q1.length = q0.length + 1 := by rw [← hq1]; simp
  obtain ⟨q2, hq2⟩ : ∃ q, q1 ++ [191] = q := ⟨_, rfl⟩
  have hl2 : q2.length = q1.length + 1 := by rw [← hq2]; simp
  obtain ⟨q3, hq3⟩ : ∃ q, q2 ++ [189] = q := ⟨_, rfl⟩
  have hl3 : q3.length = q2.length + 1 := by rw [← hq3]; simp
  have HEQ := Lib.hid (show q0 ++ encodeRuneZ c = q3 by rw [encodeRuneZ_bad (by omega), ← hq3, ← hq2, ← hq1]; (try simp))
  have HQ1 := Lib.hid hq1; have HQ2 := Lib.hid hq2; have HQ3 := Lib.hid hq3
  have hn1 : q1.length ≤ 4194304 + 1 := by omega
  have hn2 : q2.length ≤ 4194304 + 2 := by omega
  have hn3 : q3.length ≤ 4194304 + 3 := by omega
  have HA0 := Lib.hid (World.ownsRow.alloc hO (.cells #[.int .u8 239] 5))
  clear hO hB hq1 hl1 hq2 hl2 hq3 hl3
  clear h0 h1
  go_enter Tryd.func27, Tryd.ntmps27
  go_wp2_with (first | (at_builtin; refine wpList_append_own _ rfl _ _ 38 rfl B 5 i0 (.int .u8 0) 1 1 Tryd.underlying38 hin hz0 hz1 hz2 rfl (by decide) v q0.length (cellsB q0) rfl HA0.out ⟨w.heap.size, 0, none⟩ 1 1 [.int .u8 239] rfl rfl (cell_one _ _ _) (by intro u hu; simp at hu; subst hu; rfl) (by unfold maxLen; omega) (by omega) (by have := HZ0.out; simp; omega) ?_; intro v1 w1 hown1 hg1 hnil1; have O1 := Lib.hid (show OwnB w1 B v1 q1 by rw [← HQ1.out]; exact own_appB hown1); have K1 := Lib.hid (K0.out.trans ((below_alloc1 w B HZ0.out _).trans (below_grown hg1 B (by have := HZ0.out; simp; omega) O0.out.lt))); have HZ1 := Lib.hid (Nat.le_trans HB.out K1.out.size); clear hown1 hg1 hnil1 HA0; have HA1 := Lib.hid (World.ownsRow.alloc O1.out (.cells #[.int .u8 191] 5))) | (at_builtin; refine wpList_append_own _ rfl _ _ 38 rfl B 5 i0 (.int .u8 0) 1 1 Tryd.underlying38 hin hz0 hz1 hz2 rfl (by decide) v1 q1.length (cellsB q1) rfl HA1.out ⟨w1.heap.size, 0, none⟩ 1 1 [.int .u8 191] rfl rfl (cell_one _ _ _) (by intro u hu; simp at hu; subst hu; rfl) (by unfold maxLen; omega) (by omega) (by have := HZ1.out; simp; omega) ?_; intro v2 w2 hown1 hg1 hnil1; have O2 := Lib.hid (show OwnB w2 B v2 q2 by rw [← HQ2.out]; exact own_appB hown1); have K2 := Lib.hid (K1.out.trans ((below_alloc1 w1 B HZ1.out _).trans (below_grown hg1 B (by have := HZ1.out; simp; omega) O1.out.lt))); have HZ2 := Lib.hid (Nat.le_trans HB.out K2.out.size); clear hown1 hg1 hnil1 HA1; have HA2 := Lib.hid (World.ownsRow.alloc O2.out (.cells #[.int .u8 189] 5))) | (at_builtin; refine wpList_append_own _ rfl _ _ 38 rfl B 5 i0 (.int .u8 0) 1 1 Tryd.underlying38 hin hz0 hz1 hz2 rfl (by decide) v2 q2.length (cellsB q2) rfl HA2.out ⟨w2.heap.size, 0, none⟩ 1 1 [.int .u8 189] rfl rfl (cell_one _ _ _) (by intro u hu; simp at hu; subst hu; rfl) (by unfold maxLen; omega) (by omega) (by have := HZ2.out; simp; omega) ?_; intro v3 w3 hown1 hg1 hnil1; have O3 := Lib.hid (show OwnB w3 B v3 q3 by rw [← HQ3.out]; exact own_appB hown1); have K3 := Lib.hid (K2.out.trans ((below_alloc1 w2 B HZ2.out _).trans (below_grown hg1 B (by have := HZ2.out; simp; omega) O2.out.lt))); have HZ3 := Lib.hid (Nat.le_trans HB.out K3.out.size); clear hown1 hg1 hnil1 HA2))
  go_ret
  exact ⟨_, rfl, by rw [HEQ.out]; exact O3.out, K3.out⟩
theorem pr27 (w : World) (B : Nat) (v : Value) (q0 : List Int) (c : Int) (hO : OwnB w B v q0) (hB : B ≤ w.heap.size) (hxs : q0.length ≤ 4194304) :
    Calls Tryd.prog 27 #[v, .int .i32 c] w fun e w' => ∃ v', e = .returned v' ∧ OwnB w' B v' (q0 ++ encodeRuneZ c) ∧ Below B w w' := by
  by_cases a0 : c < 0
  · exact pr27_5a w B v q0 c a0 hO hB hxs
  by_cases a1 : c ≤ 127
  · exact pr27_1 w B v q0 c (by omega) a1 hO hB hxs
  by_cases a2 : c ≤ 2047
  · exact pr27_2 w B v q0 c (by omega) a2 hO hB hxs
  by_cases a3 : c < 55296
  · exact pr27_3a w B v q0 c (by omega) a3 hO hB hxs
  by_cases a4 : c ≤ 57343
  · exact pr27_5c w B v q0 c (by omega) a4 hO hB hxs
  by_cases a5 : c ≤ 65535
  · exact pr27_3b w B v q0 c (by omega) a5 hO hB hxs
  by_cases a6 : c ≤ 1114111
  · exact pr27_4 w B v q0 c (by omega) a6 hO hB hxs
  · exact pr27_5b w B v q0 c (by omega) hO hB hxs
end Go.Proofs.YtcnembabenlheaaDoor
