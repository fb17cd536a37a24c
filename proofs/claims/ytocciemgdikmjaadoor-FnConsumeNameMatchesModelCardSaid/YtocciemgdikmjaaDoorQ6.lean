/-
  zzDecodeB4: three bytes.
-/
import Derived.Test.YtocciemgdikmjaaDoorQ5b
namespace Go.Proofs.YtocciemgdikmjaaDoor
open Go.ChangeShapes Go.WideShapes Go.ChangeAt Go.RowKit
open Go.Lib (decodeN decode_at decodeGo)
set_option linter.unusedVariables false
set_option maxRecDepth 100000 in
set_option maxHeartbeats 4000000 in
theorem dz65_c0 (s : ByteArray) (i b0 : Nat) (hi : i < s.size) (hs : s.size ≤ 1048576) (y0 : byt s i = b0) (h1 : 224 ≤ b0) (h2 : b0 ≤ 224) (w : World) :
    Calls Tryd.prog 65 #[.string s, .int .i64 i] w fun e w' => RuneAt s i e ∧ Below w.heap.size w w' := by
  have g0 : ((s[i]'hi).toNat : Int) = (b0 : Int) := by have := byt_at s i hi; omega
  obtain ⟨n, hn⟩ : ∃ n, s.size - i = n := ⟨_, rfl⟩
  have hnI : (s.size : Int) - (i : Int) = (n : Int) := by omega
  have hn1 : 1 ≤ n := by omega
  have hnB : n ≤ 1048576 := by omega
  have hzd := zd_at s i hi
  rw [hn, y0] at hzd
  have e0 : ¬ (n : Int) ≤ 0 := by omega
  have ta128 : ¬ (b0 : Int) < 128 := by omega
  have ta194 : ¬ (b0 : Int) < 194 := by omega
  have ta224 : ¬ (b0 : Int) < 224 := by omega
  have ta240 : (b0 : Int) < 240 := by omega
  have tb244 : ¬ (244 : Int) < (b0 : Int) := by omega
  have te224 : ((b0 : Int) == 224) = true := by rw [beq_iff_eq]; omega
  have te237 : ((b0 : Int) == 237) = false := by rw [beq_eq_false_iff_ne]; omega
  have te240 : ((b0 : Int) == 240) = false := by rw [beq_eq_false_iff_ne]; omega
  have te244 : ((b0 : Int) == 244) = false := by rw [beq_eq_false_iff_ne]; omega
  by_cases q1 : i + 1 < s.size
  case neg =>
    have e1 : (n : Int) < 2 := by omega
    have HD := Lib.hid (show decodeGo (s.extract i s.size) = (65533, 1) by rw [hzd]; unfold zd; rw [if_neg (by omega), if_neg (by omega), if_pos (by omega), if_pos (show b0 = 224 by omega), if_neg (show ¬ b0 = 237 by omega), if_neg (by omega)])
    clear hzd y0 
    go_enter Tryd.func65, Tryd.ntmps65
    go_wp2_with fail
    go_ret2
    exact ⟨RuneAt.of HD.out rfl, Below.refl _ _⟩
  have e1 : ¬ (n : Int) < 2 := by omega
  obtain ⟨b1, y1⟩ : ∃ b, byt s (i + 1) = b := ⟨_, rfl⟩
  have g1 : ((s[i + 1]'q1).toNat : Int) = (b1 : Int) := by have := byt_at s (i + 1) q1; omega
  have z1 : b1 < 256 := by rw [← y1]; exact byt_lt _ _
  by_cases c1 : 160 ≤ b1
  case neg =>
    have f1 : (b1 : Int) < 160 := by omega
    have HD := Lib.hid (show decodeGo (s.extract i s.size) = (65533, 1) by rw [hzd, y1]; unfold zd; rw [if_neg (by omega), if_neg (by omega), if_pos (by omega), if_pos (show b0 = 224 by omega), if_neg (show ¬ b0 = 237 by omega), if_neg (by omega)])
    clear hzd y0 y1
    go_enter Tryd.func65, Tryd.ntmps65
    go_wp2_with fail
    go_ret2
    exact ⟨RuneAt.of HD.out rfl, Below.refl _ _⟩
  have f1 : ¬ (b1 : Int) < 160 := by omega
  by_cases c2 : b1 ≤ 191
  case neg =>
    have f2 : (191 : Int) < (b1 : Int) := by omega
    have HD := Lib.hid (show decodeGo (s.extract i s.size) = (65533, 1) by rw [hzd, y1]; unfold zd; rw [if_neg (by omega), if_neg (by omega), if_pos (by omega), if_pos (show b0 = 224 by omega), if_neg (show ¬ b0 = 237 by omega), if_neg (by omega)])
    clear hzd y0 y1
    go_enter Tryd.func65, Tryd.ntmps65
    go_wp2_with fail
    go_ret2
    exact ⟨RuneAt.of HD.out rfl, Below.refl _ _⟩
  have f2 : ¬ (191 : Int) < (b1 : Int) := by omega
  by_cases q2 : i + 2 < s.size
  case neg =>
    have e2 : (n : Int) < 3 := by omega
    have HD := Lib.hid (show decodeGo (s.extract i s.size) = (65533, 1) by rw [hzd, y1]; unfold zd; rw [if_neg (by omega), if_neg (by omega), if_pos (by omega), if_pos (show b0 = 224 by omega), if_neg (show ¬ b0 = 237 by omega), if_neg (by omega)])
    clear hzd y0 y1
    go_enter Tryd.func65, Tryd.ntmps65
    go_wp2_with fail
    go_ret2
    exact ⟨RuneAt.of HD.out rfl, Below.refl _ _⟩
  have e2 : ¬ (n : Int) < 3 := by omega
  obtain ⟨b2, y2⟩ : ∃ b, byt s (i + 2) = b := ⟨_, rfl⟩
  have g2 : ((s[i + 2]'q2).toNat : Int) = (b2 : Int) := by have := byt_at s (i + 2) q2; omega
  have z2 : b2 < 256 := by rw [← y2]; exact byt_lt _ _
  by_cases c3 : 128 ≤ b2 ∧ b2 ≤ 191
  case neg =>
    have HD := Lib.hid (show decodeGo (s.extract i s.size) = (65533, 1) by rw [hzd, y1, y2]; unfold zd; rw [if_neg (by omega), if_neg (by omega), if_pos (by omega), if_pos (show b0 = 224 by omega), if_neg (show ¬ b0 = 237 by omega), if_neg (by omega)])
    have HC2 := Lib.hid (show ctC b2 = false from decide_eq_false (by omega))
    clear hzd y0 y1 y2
    go_enter Tryd.func65, Tryd.ntmps65
    go_wp2_with fail
    refine (ct83 b2 _).mono ?_
    rintro e wc2 ⟨rfl, rfl⟩
    rw [HC2.out]
    dsimp only
    go_wp2_with fail
    go_ret2
    exact ⟨RuneAt.of HD.out rfl, Below.refl _ _⟩
  have HD := Lib.hid (show decodeGo (s.extract i s.size) = (b0 % 16 * 4096 + b1 % 64 * 64 + b2 % 64, 3) by rw [hzd, y1, y2]; unfold zd; rw [if_neg (by omega), if_neg (by omega), if_pos (by omega), if_pos (show b0 = 224 by omega), if_neg (show ¬ b0 = 237 by omega), if_pos (by omega)])
  have HC2 := Lib.hid (show ctC b2 = true from decide_eq_true (by omega))
  clear hzd y0 y1 y2
  have x11 : (0 : Int) ≤ (i : Int) + 1 := by omega
  have x12 : (i : Int) + 1 < (s.size : Int) := by omega
  have x13 : ((i : Int) + 1).toNat = i + 1 := by omega
  have x14 : IntKind.i64.wrap ((i : Int) + 1) = (i : Int) + 1 := by rw [IntKind.wrap_i64]; omega
  have x21 : (0 : Int) ≤ (i : Int) + 2 := by omega
  have x22 : (i : Int) + 2 < (s.size : Int) := by omega
  have x23 : ((i : Int) + 2).toNat = i + 2 := by omega
  have x24 : IntKind.i64.wrap ((i : Int) + 2) = (i : Int) + 2 := by rw [IntKind.wrap_i64]; omega
  go_enter Tryd.func65, Tryd.ntmps65
  go_wp2_with fail
  refine (ct83 b2 _).mono ?_
  rintro e wc2 ⟨rfl, rfl⟩
  rw [HC2.out]
  dsimp only
  go_wp2_with fail
  go_quiet (fail)
  go_wp2_with fail
  go_ret2
  refine ⟨RuneAt.of HD.out ?_, below_dn (Below.refl _ _) _⟩
  simp
  exact bits3 b0 b1 b2 (by omega) z1 z2
set_option maxRecDepth 100000 in
set_option maxHeartbeats 4000000 in
theorem dz65_c1 (s : ByteArray) (i b0 : Nat) (hi : i < s.size) (hs : s.size ≤ 1048576) (y0 : byt s i = b0) (h1 : 225 ≤ b0) (h2 : b0 ≤ 236) (w : World) :
    Calls Tryd.prog 65 #[.string s, .int .i64 i] w fun e w' => RuneAt s i e ∧ Below w.heap.size w w' := by
  have g0 : ((s[i]'hi).toNat : Int) = (b0 : Int) := by have := byt_at s i hi; omega
  obtain ⟨n, hn⟩ : ∃ n, s.size - i = n := ⟨_, rfl⟩
  have hnI : (s.size : Int) - (i : Int) = (n : Int) := by omega
  have hn1 : 1 ≤ n := by omega
  have hnB : n ≤ 1048576 := by omega
  have hzd := zd_at s i hi
  rw [hn, y0] at hzd
  have e0 : ¬ (n : Int) ≤ 0 := by omega
  have ta128 : ¬ (b0 : Int) < 128 := by omega
  have ta194 : ¬ (b0 : Int) < 194 := by omega
  have ta224 : ¬ (b0 : Int) < 224 := by omega
  have ta240 : (b0 : Int) < 240 := by omega
  have tb244 : ¬ (244 : Int) < (b0 : Int) := by omega
  have te224 : ((b0 : Int) == 224) = false := by rw [beq_eq_false_iff_ne]; omega
  have te237 : ((b0 : Int) == 237) = false := by rw [beq_eq_false_iff_ne]; omega
  have te240 : ((b0 : Int) == 240) = false := by rw [beq_eq_false_iff_ne]; omega
  have te244 : ((b0 : Int) == 244) = false := by rw [beq_eq_false_iff_ne]; omega
  by_cases q1 : i + 1 < s.size
  case neg =>
    have e1 : (n : Int) < 2 := by omega
    have HD := Lib.hid (show decodeGo (s.extract i s.size) = (65533, 1) by rw [hzd]; unfold zd; rw [if_neg (by omega), if_neg (by omega), if_pos (by omega), if_neg (show ¬ b0 = 224 by omega), if_neg (show ¬ b0 = 237 by omega), if_neg (by omega)])
    clear hzd y0 
    go_enter Tryd.func65, Tryd.ntmps65
    go_wp2_with fail
    go_ret2
    exact ⟨RuneAt.of HD.out rfl, Below.refl _ _⟩
  have e1 : ¬ (n : Int) < 2 := by omega
  obtain ⟨b1, y1⟩ : ∃ b, byt s (i + 1) = b := ⟨_, rfl⟩
  have g1 : ((s[i + 1]'q1).toNat : Int) = (b1 : Int) := by have := byt_at s (i + 1) q1; omega
  have z1 : b1 < 256 := by rw [← y1]; exact byt_lt _ _
  by_cases c1 : 128 ≤ b1
  case neg =>
    have f1 : (b1 : Int) < 128 := by omega
    have HD := Lib.hid (show decodeGo (s.extract i s.size) = (65533, 1) by rw [hzd, y1]; unfold zd; rw [if_neg (by omega), if_neg (by omega), if_pos (by omega), if_neg (show ¬ b0 = 224 by omega), if_neg (show ¬ b0 = 237 by omega), if_neg (by omega)])
    clear hzd y0 y1
    go_enter Tryd.func65, Tryd.ntmps65
    go_wp2_with fail
    go_ret2
    exact ⟨RuneAt.of HD.out rfl, Below.refl _ _⟩
  have f1 : ¬ (b1 : Int) < 128 := by omega
  by_cases c2 : b1 ≤ 191
  case neg =>
    have f2 : (191 : Int) < (b1 : Int) := by omega
    have HD := Lib.hid (show decodeGo (s.extract i s.size) = (65533, 1) by rw [hzd, y1]; unfold zd; rw [if_neg (by omega), if_neg (by omega), if_pos (by omega), if_neg (show ¬ b0 = 224 by omega), if_neg (show ¬ b0 = 237 by omega), if_neg (by omega)])
    clear hzd y0 y1
    go_enter Tryd.func65, Tryd.ntmps65
    go_wp2_with fail
    go_ret2
    exact ⟨RuneAt.of HD.out rfl, Below.refl _ _⟩
  have f2 : ¬ (191 : Int) < (b1 : Int) := by omega
  by_cases q2 : i + 2 < s.size
  case neg =>
    have e2 : (n : Int) < 3 := by omega
    have HD := Lib.hid (show decodeGo (s.extract i s.size) = (65533, 1) by rw [hzd, y1]; unfold zd; rw [if_neg (by omega), if_neg (by omega), if_pos (by omega), if_neg (show ¬ b0 = 224 by omega), if_neg (show ¬ b0 = 237 by omega), if_neg (by omega)])
    clear hzd y0 y1
    go_enter Tryd.func65, Tryd.ntmps65
    go_wp2_with fail
    go_ret2
    exact ⟨RuneAt.of HD.out rfl, Below.refl _ _⟩
  have e2 : ¬ (n : Int) < 3 := by omega
  obtain ⟨b2, y2⟩ : ∃ b, byt s (i + 2) = b := ⟨_, rfl⟩
  have g2 : ((s[i + 2]'q2).toNat : Int) = (b2 : Int) := by have := byt_at s (i + 2) q2; omega
  have z2 : b2 < 256 := by rw [← y2]; exact byt_lt _ _
  by_cases c3 : 128 ≤ b2 ∧ b2 ≤ 191
  case neg =>
    have HD := Lib.hid (show decodeGo (s.extract i s.size) = (65533, 1) by rw [hzd, y1, y2]; unfold zd; rw [if_neg (by omega), if_neg (by omega), if_pos (by omega), if_neg (show ¬ b0 = 224 by omega), if_neg (show ¬ b0 = 237 by omega), if_neg (by omega)])
    have HC2 := Lib.hid (show ctC b2 = false from decide_eq_false (by omega))
    clear hzd y0 y1 y2
    go_enter Tryd.func65, Tryd.ntmps65
    go_wp2_with fail
    refine (ct83 b2 _).mono ?_
    rintro e wc2 ⟨rfl, rfl⟩
    rw [HC2.out]
    dsimp only
    go_wp2_with fail
    go_ret2
    exact ⟨RuneAt.of HD.out rfl, Below.refl _ _⟩
  have HD := Lib.hid (show decodeGo (s.extract i s.size) = (b0 % 16 * 4096 + b1 % 64 * 64 + b2 % 64, 3) by rw [hzd, y1, y2]; unfold zd; rw [if_neg (by omega), if_neg (by omega), if_pos (by omega), if_neg (show ¬ b0 = 224 by omega), if_neg (show ¬ b0 = 237 by omega), if_pos (by omega)])
  have HC2 := Lib.hid (show ctC b2 = true from decide_eq_true (by omega))
  clear hzd y0 y1 y2
  have x11 : (0 : Int) ≤ (i : Int) + 1 := by omega
  have x12 : (i : Int) + 1 < (s.size : Int) := by omega
  have x13 : ((i : Int) + 1).toNat = i + 1 := by omega
  have x14 : IntKind.i64.wrap ((i : Int) + 1) = (i : Int) + 1 := by rw [IntKind.wrap_i64]; omega
  have x21 : (0 : Int) ≤ (i : Int) + 2 := by omega
  have x22 : (i : Int) + 2 < (s.size : Int) := by omega
  have x23 : ((i : Int) + 2).toNat = i + 2 := by omega
  have x24 : IntKind.i64.wrap ((i : Int) + 2) = (i : Int) + 2 := by rw [IntKind.wrap_i64]; omega
  go_enter Tryd.func65, Tryd.ntmps65
  go_wp2_with fail
  refine (ct83 b2 _).mono ?_
  rintro e wc2 ⟨rfl, rfl⟩
  rw [HC2.out]
  dsimp only
  go_wp2_with fail
  go_quiet (fail)
  go_wp2_with fail
  go_ret2
  refine ⟨RuneAt.of HD.out ?_, below_dn (Below.refl _ _) _⟩
  simp
  exact bits3 b0 b1 b2 (by omega) z1 z2
set_option maxRecDepth 100000 in
set_option maxHeartbeats 4000000 in
theorem dz65_c2 (s : ByteArray) (i b0 : Nat) (hi : i < s.size) (hs : s.size ≤ 1048576) (y0 : byt s i = b0) (h1 : 237 ≤ b0) (h2 : b0 ≤ 237) (w : World) :
    Calls Tryd.prog 65 #[.string s, .int .i64 i] w fun e w' => RuneAt s i e ∧ Below w.heap.size w w' := by
  have g0 : ((s[i]'hi).toNat : Int) = (b0 : Int) := by have := byt_at s i hi; omega
  obtain ⟨n, hn⟩ : ∃ n, s.size - i = n := ⟨_, rfl⟩
  have hnI : (s.size : Int) - (i : Int) = (n : Int) := by omega
  have hn1 : 1 ≤ n := by omega
  have hnB : n ≤ 1048576 := by omega
  have hzd := zd_at s i hi
  rw [hn, y0] at hzd
  have e0 : ¬ (n : Int) ≤ 0 := by omega
  have ta128 : ¬ (b0 : Int) < 128 := by omega
  have ta194 : ¬ (b0 : Int) < 194 := by omega
  have ta224 : ¬ (b0 : Int) < 224 := by omega
  have ta240 : (b0 : Int) < 240 := by omega
  have tb244 : ¬ (244 : Int) < (b0 : Int) := by omega
  have te224 : ((b0 : Int) == 224) = false := by rw [beq_eq_false_iff_ne]; omega
  have te237 : ((b0 : Int) == 237) = true := by rw [beq_iff_eq]; omega
  have te240 : ((b0 : Int) == 240) = false := by rw [beq_eq_false_iff_ne]; omega
  have te244 : ((b0 : Int) == 244) = false := by rw [beq_eq_false_iff_ne]; omega
  by_cases q1 : i + 1 < s.size
  case neg =>
    have e1 : (n : Int) < 2 := by omega
    have HD := Lib.hid (show decodeGo (s.extract i s.size) = (65533, 1) by rw [hzd]; unfold zd; rw [if_neg (by omega), if_neg (by omega), if_pos (by omega), if_neg (show ¬ b0 = 224 by omega), if_pos (show b0 = 237 by omega), if_neg (by omega)])
    clear hzd y0 
    go_enter Tryd.func65, Tryd.ntmps65
    go_wp2_with fail
    go_ret2
    exact ⟨RuneAt.of HD.out rfl, Below.refl _ _⟩
  have e1 : ¬ (n : Int) < 2 := by omega
  obtain ⟨b1, y1⟩ : ∃ b, byt s (i + 1) = b := ⟨_, rfl⟩
  have g1 : ((s[i + 1]'q1).toNat : Int) = (b1 : Int) := by have := byt_at s (i + 1) q1; omega
  have z1 : b1 < 256 := by rw [← y1]; exact byt_lt _ _
  by_cases c1 : 128 ≤ b1
  case neg =>
    have f1 : (b1 : Int) < 128 := by omega
    have HD := Lib.hid (show decodeGo (s.extract i s.size) = (65533, 1) by rw [hzd, y1]; unfold zd; rw [if_neg (by omega), if_neg (by omega), if_pos (by omega), if_neg (show ¬ b0 = 224 by omega), if_pos (show b0 = 237 by omega), if_neg (by omega)])
    clear hzd y0 y1
    go_enter Tryd.func65, Tryd.ntmps65
    go_wp2_with fail
    go_ret2
    exact ⟨RuneAt.of HD.out rfl, Below.refl _ _⟩
  have f1 : ¬ (b1 : Int) < 128 := by omega
  by_cases c2 : b1 ≤ 159
  case neg =>
    have f2 : (159 : Int) < (b1 : Int) := by omega
    have HD := Lib.hid (show decodeGo (s.extract i s.size) = (65533, 1) by rw [hzd, y1]; unfold zd; rw [if_neg (by omega), if_neg (by omega), if_pos (by omega), if_neg (show ¬ b0 = 224 by omega), if_pos (show b0 = 237 by omega), if_neg (by omega)])
    clear hzd y0 y1
    go_enter Tryd.func65, Tryd.ntmps65
    go_wp2_with fail
    go_ret2
    exact ⟨RuneAt.of HD.out rfl, Below.refl _ _⟩
  have f2 : ¬ (159 : Int) < (b1 : Int) := by omega
  by_cases q2 : i + 2 < s.size
  case neg =>
    have e2 : (n : Int) < 3 := by omega
    have HD := Lib.hid (show decodeGo (s.extract i s.size) = (65533, 1) by rw [hzd, y1]; unfold zd; rw [if_neg (by omega), if_neg (by omega), if_pos (by omega), if_neg (show ¬ b0 = 224 by omega), if_pos (show b0 = 237 by omega), if_neg (by omega)])
    clear hzd y0 y1
    go_enter Tryd.func65, Tryd.ntmps65
    go_wp2_with fail
    go_ret2
    exact ⟨RuneAt.of HD.out rfl, Below.refl _ _⟩
  have e2 : ¬ (n : Int) < 3 := by omega
  obtain ⟨b2, y2⟩ : ∃ b, byt s (i + 2) = b := ⟨_, rfl⟩
  have g2 : ((s[i + 2]'q2).toNat : Int) = (b2 : Int) := by have := byt_at s (i + 2) q2; omega
  have z2 : b2 < 256 := by rw [← y2]; exact byt_lt _ _
  by_cases c3 : 128 ≤ b2 ∧ b2 ≤ 191
  case neg =>
    have HD := Lib.hid (show decodeGo (s.extract i s.size) = (65533, 1) by rw [hzd, y1, y2]; unfold zd; rw [if_neg (by omega), if_neg (by omega), if_pos (by omega), if_neg (show ¬ b0 = 224 by omega), if_pos (show b0 = 237 by omega), if_neg (by omega)])
    have HC2 := Lib.hid (show ctC b2 = false from decide_eq_false (by omega))
    clear hzd y0 y1 y2
    go_enter Tryd.func65, Tryd.ntmps65
    go_wp2_with fail
    refine (ct83 b2 _).mono ?_
    rintro e wc2 ⟨rfl, rfl⟩
    rw [HC2.out]
    dsimp only
    go_wp2_with fail
    go_ret2
    exact ⟨RuneAt.of HD.out rfl, Below.refl _ _⟩
  have HD := Lib.hid (show decodeGo (s.extract i s.size) = (b0 % 16 * 4096 + b1 % 64 * 64 + b2 % 64, 3) by rw [hzd, y1, y2]; unfold zd; rw [if_neg (by omega), if_neg (by omega), if_pos (by omega), if_neg (show ¬ b0 = 224 by omega), if_pos (show b0 = 237 by omega), if_pos (by omega)])
  have HC2 := Lib.hid (show ctC b2 = true from decide_eq_true (by omega))
  clear hzd y0 y1 y2
  have x11 : (0 : Int) ≤ (i : Int) + 1 := by omega
  have x12 : (i : Int) + 1 < (s.size : Int) := by omega
  have x13 : ((i : Int) + 1).toNat = i + 1 := by omega
  have x14 : IntKind.i64.wrap ((i : Int) + 1) = (i : Int) + 1 := by rw [IntKind.wrap_i64]; omega
  have x21 : (0 : Int) ≤ (i : Int) + 2 := by omega
  have x22 : (i : Int) + 2 < (s.size : Int) := by omega
  have x23 : ((i : Int) + 2).toNat = i + 2 := by omega
  have x24 : IntKind.i64.wrap ((i : Int) + 2) = (i : Int) + 2 := by rw [IntKind.wrap_i64]; omega
  go_enter Tryd.func65, Tryd.ntmps65
  go_wp2_with fail
  refine (ct83 b2 _).mono ?_
  rintro e wc2 ⟨rfl, rfl⟩
  rw [HC2.out]
  dsimp only
  go_wp2_with fail
  go_quiet (fail)
  go_wp2_with fail
  go_ret2
  refine ⟨RuneAt.of HD.out ?_, below_dn (Below.refl _ _) _⟩
  simp
  exact bits3 b0 b1 b2 (by omega) z1 z2
set_option maxRecDepth 100000 in
set_option maxHeartbeats 4000000 in
theorem dz65_c3 (s : ByteArray) (i b0 : Nat) (hi : i < s.size) (hs : s.size ≤ 1048576) (y0 : byt s i = b0) (h1 : 238 ≤ b0) (h2 : b0 ≤ 239) (w : World) :
    Calls Tryd.prog 65 #[.string s, .int .i64 i] w fun e w' => RuneAt s i e ∧ Below w.heap.size w w' := by
  have g0 : ((s[i]'hi).toNat : Int) = (b0 : Int) := by have := byt_at s i hi; omega
  obtain ⟨n, hn⟩ : ∃ n, s.size - i = n := ⟨_, rfl⟩
  have hnI : (s.size : Int) - (i : Int) = (n : Int) := by omega
  have hn1 : 1 ≤ n := by omega
  have hnB : n ≤ 1048576 := by omega
  have hzd := zd_at s i hi
  rw [hn, y0] at hzd
  have e0 : ¬ (n : Int) ≤ 0 := by omega
  have ta128 : ¬ (b0 : Int) < 128 := by omega
  have ta194 : ¬ (b0 : Int) < 194 := by omega
  have ta224 : ¬ (b0 : Int) < 224 := by omega
  have ta240 : (b0 : Int) < 240 := by omega
  have tb244 : ¬ (244 : Int) < (b0 : Int) := by omega
  have te224 : ((b0 : Int) == 224) = false := by rw [beq_eq_false_iff_ne]; omega
  have te237 : ((b0 : Int) == 237) = false := by rw [beq_eq_false_iff_ne]; omega
  have te240 : ((b0 : Int) == 240) = false := by rw [beq_eq_false_iff_ne]; omega
  have te244 : ((b0 : Int) == 244) = false := by rw [beq_eq_false_iff_ne]; omega
  by_cases q1 : i + 1 < s.size
  case neg =>
    have e1 : (n : Int) < 2 := by omega
    have HD := Lib.hid (show decodeGo (s.extract i s.size) = (65533, 1) by rw [hzd]; unfold zd; rw [if_neg (by omega), if_neg (by omega), if_pos (by omega), if_neg (show ¬ b0 = 224 by omega), if_neg (show ¬ b0 = 237 by omega), if_neg (by omega)])
    clear hzd y0 
    go_enter Tryd.func65, Tryd.ntmps65
    go_wp2_with fail
    go_ret2
    exact ⟨RuneAt.of HD.out rfl, Below.refl _ _⟩
  have e1 : ¬ (n : Int) < 2 := by omega
  obtain ⟨b1, y1⟩ : ∃ b, byt s (i + 1) = b := ⟨_, rfl⟩
  have g1 : ((s[i + 1]'q1).toNat : Int) = (b1 : Int) := by have := byt_at s (i + 1) q1; omega
  have z1 : b1 < 256 := by rw [← y1]; exact byt_lt _ _
  by_cases c1 : 128 ≤ b1
  case neg =>
    have f1 : (b1 : Int) < 128 := by omega
    have HD := Lib.hid (show decodeGo (s.extract i s.size) = (65533, 1) by rw [hzd, y1]; unfold zd; rw [if_neg (by omega), if_neg (by omega), if_pos (by omega), if_neg (show ¬ b0 = 224 by omega), if_neg (show ¬ b0 = 237 by omega), if_neg (by omega)])
    clear hzd y0 y1
    go_enter Tryd.func65, Tryd.ntmps65
    go_wp2_with fail
    go_ret2
    exact ⟨RuneAt.of HD.out rfl, Below.refl _ _⟩
  have f1 : ¬ (b1 : Int) < 128 := by omega
  by_cases c2 : b1 ≤ 191
  case neg =>
    have f2 : (191 : Int) < (b1 : Int) := by omega
    have HD := Lib.hid (show decodeGo (s.extract i s.size) = (65533, 1) by rw [hzd, y1]; unfold zd; rw [if_neg (by omega), if_neg (by omega), if_pos (by omega), if_neg (show ¬ b0 = 224 by omega), if_neg (show ¬ b0 = 237 by omega), if_neg (by omega)])
    clear hzd y0 y1
    go_enter Tryd.func65, Tryd.ntmps65
    go_wp2_with fail
    go_ret2
    exact ⟨RuneAt.of HD.out rfl, Below.refl _ _⟩
  have f2 : ¬ (191 : Int) < (b1 : Int) := by omega
  by_cases q2 : i + 2 < s.size
  case neg =>
    have e2 : (n : Int) < 3 := by omega
    have HD := Lib.hid (show decodeGo (s.extract i s.size) = (65533, 1) by rw [hzd, y1]; unfold zd; rw [if_neg (by omega), if_neg (by omega), if_pos (by omega), if_neg (show ¬ b0 = 224 by omega), if_neg (show ¬ b0 = 237 by omega), if_neg (by omega)])
    clear hzd y0 y1
    go_enter Tryd.func65, Tryd.ntmps65
    go_wp2_with fail
    go_ret2
    exact ⟨RuneAt.of HD.out rfl, Below.refl _ _⟩
  have e2 : ¬ (n : Int) < 3 := by omega
  obtain ⟨b2, y2⟩ : ∃ b, byt s (i + 2) = b := ⟨_, rfl⟩
  have g2 : ((s[i + 2]'q2).toNat : Int) = (b2 : Int) := by have := byt_at s (i + 2) q2; omega
  have z2 : b2 < 256 := by rw [← y2]; exact byt_lt _ _
  by_cases c3 : 128 ≤ b2 ∧ b2 ≤ 191
  case neg =>
    have HD := Lib.hid (show decodeGo (s.extract i s.size) = (65533, 1) by rw [hzd, y1, y2]; unfold zd; rw [if_neg (by omega), if_neg (by omega), if_pos (by omega), if_neg (show ¬ b0 = 224 by omega), if_neg (show ¬ b0 = 237 by omega), if_neg (by omega)])
    have HC2 := Lib.hid (show ctC b2 = false from decide_eq_false (by omega))
    clear hzd y0 y1 y2
    go_enter Tryd.func65, Tryd.ntmps65
    go_wp2_with fail
    refine (ct83 b2 _).mono ?_
    rintro e wc2 ⟨rfl, rfl⟩
    rw [HC2.out]
    dsimp only
    go_wp2_with fail
    go_ret2
    exact ⟨RuneAt.of HD.out rfl, Below.refl _ _⟩
  have HD := Lib.hid (show decodeGo (s.extract i s.size) = (b0 % 16 * 4096 + b1 % 64 * 64 + b2 % 64, 3) by rw [hzd, y1, y2]; unfold zd; rw [if_neg (by omega), if_neg (by omega), if_pos (by omega), if_neg (show ¬ b0 = 224 by omega), if_neg (show ¬ b0 = 237 by omega), if_pos (by omega)])
  have HC2 := Lib.hid (show ctC b2 = true from decide_eq_true (by omega))
  clear hzd y0 y1 y2
  have x11 : (0 : Int) ≤ (i : Int) + 1 := by omega
  have x12 : (i : Int) + 1 < (s.size : Int) := by omega
  have x13 : ((i : Int) + 1).toNat = i + 1 := by omega
  have x14 : IntKind.i64.wrap ((i : Int) + 1) = (i : Int) + 1 := by rw [IntKind.wrap_i64]; omega
  have x21 : (0 : Int) ≤ (i : Int) + 2 := by omega
  have x22 : (i : Int) + 2 < (s.size : Int) := by omega
  have x23 : ((i : Int) + 2).toNat = i + 2 := by omega
  have x24 : IntKind.i64.wrap ((i : Int) + 2) = (i : Int) + 2 := by rw [IntKind.wrap_i64]; omega
  go_enter Tryd.func65, Tryd.ntmps65
  go_wp2_with fail
  refine (ct83 b2 _).mono ?_
  rintro e wc2 ⟨rfl, rfl⟩
  rw [HC2.out]
  dsimp only
  go_wp2_with fail
  go_quiet (fail)
  go_wp2_with fail
  go_ret2
  refine ⟨RuneAt.of HD.out ?_, below_dn (Below.refl _ _) _⟩
  simp
  exact bits3 b0 b1 b2 (by omega) z1 z2
end Go.Proofs.YtocciemgdikmjaaDoor
