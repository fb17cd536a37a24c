/-
  zzDecodeB4: the rune at a place, as Go decodes it: the plain ones.
-/
import Derived.Test.YtocciemgdikmjaaDoorP1
import Derived.Test.YtocciemgdikmjaaDoorD2
import Derived.Deep.QuietTactic
namespace Go.Proofs.YtocciemgdikmjaaDoor
open Go.ChangeShapes Go.WideShapes Go.ChangeAt Go.RowKit
open Go.Lib (decodeN decode_at decodeGo)
set_option linter.unusedVariables false
theorem ext_byt (s : ByteArray) (i j : Nat) : ((s.extract i s.size).get! j).toNat = byt s (i + j) := by
  by_cases h : i + j < s.size
  · have h1 : j < (s.extract i s.size).size := by simp; omega
    have e1 : (s.extract i s.size).get! j = (s.extract i s.size)[j]'h1 := by
      simp only [ByteArray.get!, ByteArray.getElem_eq_getElem_data]
      exact getElem!_pos (s.extract i s.size).data j (by simpa using h1)
    rw [e1, ByteArray.getElem_extract, byt_at s (i + j) h]
  · have h1 : ¬ j < (s.extract i s.size).data.size := by
      show ¬ j < (s.extract i s.size).size
      simp; omega
    have h2 : ¬ i + j < s.data.size := h
    have e1 : (s.extract i s.size).get! j = default := getElem!_neg (s.extract i s.size).data j h1
    have e2 : s.get! (i + j) = default := getElem!_neg s.data (i + j) h2
    rw [e1, byt, e2]
theorem dec_at (s : ByteArray) (i : Nat) (h : i < s.size) : decodeGo (s.extract i s.size) = decodeN (s.size - i) (byt s i) (byt s (i + 1)) (byt s (i + 2)) (byt s (i + 3)) := by
  unfold decodeGo
  rw [if_neg (by simp; omega), decode_at]
  simp only [Nat.sub_zero, Nat.zero_add, ext_byt, Nat.add_zero]
  have e : (s.extract i s.size).size = s.size - i := by simp
  rw [e]
/-- what is answered: the rune and its width -/
def RuneAt (s : ByteArray) (i : Nat) (e : Ending) : Prop := e = .returned (.tuple #[.int .i32 ((decodeGo (s.extract i s.size)).1 : Nat), .int .i64 ((decodeGo (s.extract i s.size)).2 : Nat)])
theorem RuneAt.of {s : ByteArray} {i : Nat} {R W : Nat} (h : decodeGo (s.extract i s.size) = (R, W)) {v : Value} (hv : v = .tuple #[.int .i32 (R : Nat), .int .i64 (W : Nat)]) : RuneAt s i (.returned v) := by
  unfold RuneAt; rw [h, hv]
theorem below_dn {B : Nat} {a w : World} (h : Below B a w) (n : Nat) : Below B a (w.drewN n) := h.trans ⟨rfl, rfl, rfl, Nat.le_refl _, fun _ _ => rfl⟩
theorem zd_at (s : ByteArray) (i : Nat) (h : i < s.size) : decodeGo (s.extract i s.size) = zd (s.size - i) (byt s i) (byt s (i + 1)) (byt s (i + 2)) (byt s (i + 3)) := by
  rw [dec_at s i h, zd_eq _ _ _ _ _ (byt_lt _ _) (byt_lt _ _) (byt_lt _ _) (byt_lt _ _)]
def ctC (c : Nat) : Bool := decide (128 ≤ c ∧ c ≤ 191)
theorem ct83 (c : Nat) (w : World) : Calls Tryd.prog 83 #[.int .u8 c] w fun e w' => e = .returned (.bool (ctC c)) ∧ w = w' := by
  by_cases h1 : 128 ≤ c
  case neg =>
    have HR := Lib.hid (show ctC c = false from decide_eq_false (by omega))
    have i1 : ¬ (128 : Int) ≤ (c : Int) := by omega
    go_enter Tryd.func83, Tryd.ntmps83
    go_wp2_with fail
    go_ret
    exact ⟨ret_bool HR.out.symm, rfl⟩
  have i1 : (128 : Int) ≤ (c : Int) := by omega
  by_cases h2 : c ≤ 191
  · have HR := Lib.hid (show ctC c = true from decide_eq_true (by omega))
    have i2 : (c : Int) ≤ 191 := by omega
    go_enter Tryd.func83, Tryd.ntmps83
    go_wp2_with fail
    go_ret
    exact ⟨ret_bool HR.out.symm, rfl⟩
  · have HR := Lib.hid (show ctC c = false from decide_eq_false (by omega))
    have i2 : ¬ (c : Int) ≤ 191 := by omega
    go_enter Tryd.func83, Tryd.ntmps83
    go_wp2_with fail
    go_ret
    exact ⟨ret_bool HR.out.symm, rfl⟩
set_option maxRecDepth 100000 in
set_option maxHeartbeats 4000000 in
theorem dz65_lo (s : ByteArray) (i b0 : Nat) (hi : i < s.size) (hs : s.size ≤ 1048576) (y0 : byt s i = b0) (h : b0 < 128) (w : World) :
    Calls Tryd.prog 65 #[.string s, .int .i64 i] w fun e w' => RuneAt s i e ∧ Below w.heap.size w w' := by
  have g0 : ((s[i]'hi).toNat : Int) = (b0 : Int) := by have := byt_at s i hi; omega
  obtain ⟨n, hn⟩ : ∃ n, s.size - i = n := ⟨_, rfl⟩
  have hnI : (s.size : Int) - (i : Int) = (n : Int) := by omega
  have hn1 : 1 ≤ n := by omega
  have hnB : n ≤ 1048576 := by omega
  have hzd := zd_at s i hi
  rw [hn, y0] at hzd
  have e0 : ¬ (n : Int) ≤ 0 := by omega
  have ta128 : (b0 : Int) < 128 := by omega
  have HD := Lib.hid (show decodeGo (s.extract i s.size) = (b0, 1) by rw [hzd]; unfold zd; rw [if_pos (by omega)])
  clear hzd y0
  go_enter Tryd.func65, Tryd.ntmps65
  go_wp2_with fail
  go_ret2
  refine ⟨RuneAt.of HD.out ?_, Below.refl _ _⟩
  simp
set_option maxRecDepth 100000 in
set_option maxHeartbeats 4000000 in
theorem dz65_x0 (s : ByteArray) (i b0 : Nat) (hi : i < s.size) (hs : s.size ≤ 1048576) (y0 : byt s i = b0) (h1 : 128 ≤ b0) (h2 : b0 ≤ 193) (w : World) :
    Calls Tryd.prog 65 #[.string s, .int .i64 i] w fun e w' => RuneAt s i e ∧ Below w.heap.size w w' := by
  have g0 : ((s[i]'hi).toNat : Int) = (b0 : Int) := by have := byt_at s i hi; omega
  obtain ⟨n, hn⟩ : ∃ n, s.size - i = n := ⟨_, rfl⟩
  have hnI : (s.size : Int) - (i : Int) = (n : Int) := by omega
  have hn1 : 1 ≤ n := by omega
  have hnB : n ≤ 1048576 := by omega
  have hzd := zd_at s i hi
  rw [hn, y0] at hzd
  have e0 : ¬ (n : Int) ≤ 0 := by omega
  have ta128 : ¬ (b0 : Int) < 128 := by omega
  have ta194 : (b0 : Int) < 194 := by omega
  have ta224 : (b0 : Int) < 224 := by omega
  have ta240 : (b0 : Int) < 240 := by omega
  have tb244 : ¬ (244 : Int) < (b0 : Int) := by omega
  have te224 : ((b0 : Int) == 224) = false := by rw [beq_eq_false_iff_ne]; omega
  have te237 : ((b0 : Int) == 237) = false := by rw [beq_eq_false_iff_ne]; omega
  have te240 : ((b0 : Int) == 240) = false := by rw [beq_eq_false_iff_ne]; omega
  have te244 : ((b0 : Int) == 244) = false := by rw [beq_eq_false_iff_ne]; omega
  have HD := Lib.hid (show decodeGo (s.extract i s.size) = (65533, 1) by rw [hzd]; unfold zd; rw [if_neg (by omega), if_neg (by omega), if_neg (by omega), if_neg (by omega)])
  clear hzd y0
  go_enter Tryd.func65, Tryd.ntmps65
  go_wp2_with fail
  go_ret2
  exact ⟨RuneAt.of HD.out rfl, Below.refl _ _⟩
set_option maxRecDepth 100000 in
set_option maxHeartbeats 4000000 in
theorem dz65_x1 (s : ByteArray) (i b0 : Nat) (hi : i < s.size) (hs : s.size ≤ 1048576) (y0 : byt s i = b0) (h1 : 245 ≤ b0) (h2 : b0 ≤ 255) (w : World) :
    Calls Tryd.prog 65 #[.string s, .int .i64 i] w fun e w' => RuneAt s i e ∧ Below w.heap.size w w' := by
  have g0 : ((s[i]'hi).toNat : Int) = (b0 : Int) := by have := byt_at s i hi; omega
  obtain ⟨n, hn⟩ : ∃ n, s.size - i = n := ⟨_, rfl⟩
  have hnI : (s.size : Int) - (i : Int) = (n : Int) := by omega
  have hn1 : 1 ≤ n := by omega
  have hnB : n ≤ 1048576 := by omega
  have hzd := zd_at s i hi
  rw [hn, y0] at hzd
  have e0 : ¬ (n : Int) ≤ 0 := by omega
  have ta128 : ¬ (b0 : Int) < 128 := by omega
  have ta194 : ¬ (b0 : Int) < 194 := by omega
  have ta224 : ¬ (b0 : Int) < 224 := by omega
  have ta240 : ¬ (b0 : Int) < 240 := by omega
  have tb244 : (244 : Int) < (b0 : Int) := by omega
  have te224 : ((b0 : Int) == 224) = false := by rw [beq_eq_false_iff_ne]; omega
  have te237 : ((b0 : Int) == 237) = false := by rw [beq_eq_false_iff_ne]; omega
  have te240 : ((b0 : Int) == 240) = false := by rw [beq_eq_false_iff_ne]; omega
  have te244 : ((b0 : Int) == 244) = false := by rw [beq_eq_false_iff_ne]; omega
  have HD := Lib.hid (show decodeGo (s.extract i s.size) = (65533, 1) by rw [hzd]; unfold zd; rw [if_neg (by omega), if_neg (by omega), if_neg (by omega), if_neg (by omega)])
  clear hzd y0
  go_enter Tryd.func65, Tryd.ntmps65
  go_wp2_with fail
  go_ret2
  exact ⟨RuneAt.of HD.out rfl, Below.refl _ _⟩
set_option maxRecDepth 100000 in
set_option maxHeartbeats 4000000 in
theorem dz65_b (s : ByteArray) (i b0 : Nat) (hi : i < s.size) (hs : s.size ≤ 1048576) (y0 : byt s i = b0) (h1 : 194 ≤ b0) (h2 : b0 ≤ 223) (w : World) :
    Calls Tryd.prog 65 #[.string s, .int .i64 i] w fun e w' => RuneAt s i e ∧ Below w.heap.size w w' := by
  have g0 : ((s[i]'hi).toNat : Int) = (b0 : Int) := by have := byt_at s i hi; omega
  obtain ⟨n, hn⟩ : ∃ n, s.size - i = n := ⟨_, rfl⟩
  have hnI : (s.size : Int) - (i : Int) = (n : Int) := by omega
  have hn1 : 1 ≤ n := by omega
  have hnB : n ≤ 1048576 := by omega
  have hzd := zd_at s i hi
  rw [hn, y0] at hzd
  have e0 : ¬ (n : Int) ≤ 0 := by omega
  have ta128 : ¬ (b0 : Int) < 128 := by omega
  have ta194 : ¬ (b0 : Int) < 194 := by omega
  have ta224 : (b0 : Int) < 224 := by omega
  have ta240 : (b0 : Int) < 240 := by omega
  have tb244 : ¬ (244 : Int) < (b0 : Int) := by omega
  have te224 : ((b0 : Int) == 224) = false := by rw [beq_eq_false_iff_ne]; omega
  have te237 : ((b0 : Int) == 237) = false := by rw [beq_eq_false_iff_ne]; omega
  have te240 : ((b0 : Int) == 240) = false := by rw [beq_eq_false_iff_ne]; omega
  have te244 : ((b0 : Int) == 244) = false := by rw [beq_eq_false_iff_ne]; omega
  by_cases q1 : i + 1 < s.size
  case neg =>
    have e1 : (n : Int) < 2 := by omega
    have HD := Lib.hid (show decodeGo (s.extract i s.size) = (65533, 1) by rw [hzd]; unfold zd; rw [if_neg (by omega), if_pos (by omega), if_neg (by omega)])
    clear hzd y0 
    go_enter Tryd.func65, Tryd.ntmps65
    go_wp2_with fail
    go_ret2
    exact ⟨RuneAt.of HD.out rfl, Below.refl _ _⟩
  have e1 : ¬ (n : Int) < 2 := by omega
  obtain ⟨b1, y1⟩ : ∃ b, byt s (i + 1) = b := ⟨_, rfl⟩
  have g1 : ((s[i + 1]'q1).toNat : Int) = (b1 : Int) := by have := byt_at s (i + 1) q1; omega
  have z1 : b1 < 256 := by rw [← y1]; exact byt_lt _ _
  by_cases c1 : 128 ≤ b1 ∧ b1 ≤ 191
  case neg =>
    have HD := Lib.hid (show decodeGo (s.extract i s.size) = (65533, 1) by rw [hzd, y1]; unfold zd; rw [if_neg (by omega), if_pos (by omega), if_neg (by omega)])
    have HC1 := Lib.hid (show ctC b1 = false from decide_eq_false (by omega))
    clear hzd y0 y1
    go_enter Tryd.func65, Tryd.ntmps65
    go_wp2_with fail
    refine (ct83 b1 _).mono ?_
    rintro e wc1 ⟨rfl, rfl⟩
    rw [HC1.out]
    dsimp only
    go_wp2_with fail
    go_ret2
    exact ⟨RuneAt.of HD.out rfl, Below.refl _ _⟩
  have HD := Lib.hid (show decodeGo (s.extract i s.size) = (b0 % 32 * 64 + b1 % 64, 2) by rw [hzd, y1]; unfold zd; rw [if_neg (by omega), if_pos (by omega), if_pos (by omega)])
  have HC1 := Lib.hid (show ctC b1 = true from decide_eq_true (by omega))
  clear hzd y0 y1
  go_enter Tryd.func65, Tryd.ntmps65
  go_wp2_with fail
  refine (ct83 b1 _).mono ?_
  rintro e wc1 ⟨rfl, rfl⟩
  rw [HC1.out]
  dsimp only
  go_wp2_with fail
  go_ret2
  refine ⟨RuneAt.of HD.out ?_, Below.refl _ _⟩
  simp
end Go.Proofs.YtocciemgdikmjaaDoor
