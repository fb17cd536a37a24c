/-
  zzDecodeRune: the rune at a place, as Go decodes it.
-/
import Derived.Test.YtcnembabenlheaaDoorP1
import Derived.Test.YtcnembabenlheaaDoorU1
namespace Go.Proofs.YtcnembabenlheaaDoor
open Go.ChangeShapes Go.WideShapes Go.ChangeAt Go.RowKit
open Go.Lib (decodeN decode_at decodeGo)
set_option linter.unusedVariables false
/-- what is answered: the rune and its width -/
def RuneAt (s : ByteArray) (i : Nat) (e : Ending) : Prop := e = .returned (.tuple #[.int .i32 ((decodeGo (s.extract i s.size)).1 : Nat), .int .i64 ((decodeGo (s.extract i s.size)).2 : Nat)])
theorem RuneAt.of {s : ByteArray} {i : Nat} {R W : Nat} (h : decodeGo (s.extract i s.size) = (R, W)) {v : Value} (hv : v = .tuple #[.int .i32 (R : Nat), .int .i64 (W : Nat)]) : RuneAt s i (.returned v) := by
  unfold RuneAt; rw [h, hv]
theorem below_dn {B : Nat} {a w : World} (h : Below B a w) (n : Nat) : Below B a (w.drewN n) := h.trans ⟨rfl, rfl, rfl, Nat.le_refl _, fun _ _ => rfl⟩
theorem zd_at (s : ByteArray) (i : Nat) (h : i < s.size) : decodeGo (s.extract i s.size) = zd (s.size - i) (byt s i) (byt s (i + 1)) (byt s (i + 2)) (byt s (i + 3)) := by
  rw [dec_at s i h, zd_eq _ _ _ _ _ (byt_lt _ _) (byt_lt _ _) (byt_lt _ _) (byt_lt _ _)]
set_option maxRecDepth 100000 in
set_option maxHeartbeats 4000000 in
theorem dr14_b (s : ByteArray) (i : Nat) (hi : i < s.size) (hs : s.size ≤ 1048576) (h1 : 194 ≤ (s[i]'hi).toNat) (h2 : (s[i]'hi).toNat ≤ 223) (w : World) :
    Calls Tryd.prog 14 #[.string s, .int .i64 i] w fun e w' => RuneAt s i e ∧ Below w.heap.size w w' := by
  have HB0 := Lib.hid (byt_at s i hi)
  have t0 : ¬ (s[i]'hi).toNat < 128 := by omega
  have ta194 : 194 ≤ (s[i]'hi).toNat := by omega
  have ta224 : ¬ 224 ≤ (s[i]'hi).toNat := by omega
  have ta240 : ¬ 240 ≤ (s[i]'hi).toNat := by omega
  have tb223 : (s[i]'hi).toNat ≤ 223 := by omega
  have tb239 : (s[i]'hi).toNat ≤ 239 := by omega
  have tb244 : (s[i]'hi).toNat ≤ 244 := by omega
  have te224 : (((s[i]'hi).toNat : Int) == 224) = false := by simp; omega
  have te237 : (((s[i]'hi).toNat : Int) == 237) = false := by simp; omega
  have te240 : (((s[i]'hi).toNat : Int) == 240) = false := by simp; omega
  have te244 : (((s[i]'hi).toNat : Int) == 244) = false := by simp; omega
  by_cases hn : i + 1 < s.size
  · have q1 : i + 1 < s.size := by omega
    have HB1 := Lib.hid (byt_at s (i + 1) q1)
    by_cases g1 : 128 ≤ (s[i + 1]'q1).toNat
    · by_cases k1 : (s[i + 1]'q1).toNat ≤ 191
      · have hd : decodeGo (s.extract i s.size) = (byt s i % 32 * 64 + byt s (i + 1) % 64, 2) := by
          rw [zd_at s i hi]; unfold zd
          have h0 := HB0.out
          have h1 := HB1.out
          rw [if_neg (by omega), if_pos (by omega), if_pos (by omega)]
        have HD := Lib.hid hd
        clear hd
        go_enter Tryd.func14, Tryd.ntmps14
        go_wp2_with fail
        go_ret2
        refine ⟨RuneAt.of HD.out ?_, Below.refl _ _⟩
        rw [← HB0.out, ← HB1.out]
        simp
      · have hd : decodeGo (s.extract i s.size) = (65533, 1) := by
          rw [zd_at s i hi]; unfold zd
          have h0 := HB0.out
          have h1 := HB1.out
          rw [if_neg (by omega), if_pos (by omega), if_neg (by omega)]
        have HD := Lib.hid hd
        clear hd
        go_enter Tryd.func14, Tryd.ntmps14
        go_wp2_with fail
        go_ret2
        exact ⟨RuneAt.of HD.out rfl, Below.refl _ _⟩
    · have hd : decodeGo (s.extract i s.size) = (65533, 1) := by
        rw [zd_at s i hi]; unfold zd
        have h0 := HB0.out
        have h1 := HB1.out
        rw [if_neg (by omega), if_pos (by omega), if_neg (by omega)]
      have HD := Lib.hid hd
      clear hd
      go_enter Tryd.func14, Tryd.ntmps14
      go_wp2_with fail
      go_ret2
      exact ⟨RuneAt.of HD.out rfl, Below.refl _ _⟩
  · have hd : decodeGo (s.extract i s.size) = (65533, 1) := by
      rw [zd_at s i hi]; unfold zd
      have h0 := HB0.out
      rw [if_neg (by omega), if_pos (by omega), if_neg (by omega)]
    have HD := Lib.hid hd
    clear hd
    go_enter Tryd.func14, Tryd.ntmps14
    go_wp2_with fail
    go_ret2
    exact ⟨RuneAt.of HD.out rfl, Below.refl _ _⟩
set_option maxRecDepth 100000 in
theorem dr14_lo (s : ByteArray) (i : Nat) (hi : i < s.size) (hs : s.size ≤ 1048576) (h : (s[i]'hi).toNat < 128) (w : World) :
    Calls Tryd.prog 14 #[.string s, .int .i64 i] w fun e w' => RuneAt s i e ∧ Below w.heap.size w w' := by
  have HB0 := Lib.hid (byt_at s i hi)
  have hd : decodeGo (s.extract i s.size) = (byt s i, 1) := by
    rw [zd_at s i hi]; unfold zd
    have h0 := HB0.out
    rw [if_pos (by omega)]
  have HD := Lib.hid hd
  clear hd
  go_enter Tryd.func14, Tryd.ntmps14
  go_wp2_with fail
  go_ret2
  refine ⟨RuneAt.of HD.out ?_, Below.refl _ _⟩
  rw [← HB0.out]
  simp
set_option maxRecDepth 100000 in
theorem dr14_x0 (s : ByteArray) (i : Nat) (hi : i < s.size) (hs : s.size ≤ 1048576) (h1 : 128 ≤ (s[i]'hi).toNat) (h2 : (s[i]'hi).toNat ≤ 193) (w : World) :
    Calls Tryd.prog 14 #[.string s, .int .i64 i] w fun e w' => RuneAt s i e ∧ Below w.heap.size w w' := by
  have HB0 := Lib.hid (byt_at s i hi)
  have t0 : ¬ (s[i]'hi).toNat < 128 := by omega
  have ta194 : ¬ 194 ≤ (s[i]'hi).toNat := by omega
  have ta224 : ¬ 224 ≤ (s[i]'hi).toNat := by omega
  have ta240 : ¬ 240 ≤ (s[i]'hi).toNat := by omega
  have tb223 : (s[i]'hi).toNat ≤ 223 := by omega
  have tb239 : (s[i]'hi).toNat ≤ 239 := by omega
  have tb244 : (s[i]'hi).toNat ≤ 244 := by omega
  have te224 : (((s[i]'hi).toNat : Int) == 224) = false := by simp; omega
  have te237 : (((s[i]'hi).toNat : Int) == 237) = false := by simp; omega
  have te240 : (((s[i]'hi).toNat : Int) == 240) = false := by simp; omega
  have te244 : (((s[i]'hi).toNat : Int) == 244) = false := by simp; omega
  have hd : decodeGo (s.extract i s.size) = (65533, 1) := by
    rw [zd_at s i hi]; unfold zd
    have h0 := HB0.out
    rw [if_neg (by omega), if_neg (by omega), if_neg (by omega), if_neg (by omega)]
  have HD := Lib.hid hd
  clear hd
  go_enter Tryd.func14, Tryd.ntmps14
  go_wp2_with fail
  go_ret2
  exact ⟨RuneAt.of HD.out rfl, Below.refl _ _⟩
set_option maxRecDepth 100000 in
theorem dr14_x1 (s : ByteArray) (i : Nat) (hi : i < s.size) (hs : s.size ≤ 1048576) (h1 : 245 ≤ (s[i]'hi).toNat) (h2 : (s[i]'hi).toNat ≤ 255) (w : World) :
    Calls Tryd.prog 14 #[.string s, .int .i64 i] w fun e w' => RuneAt s i e ∧ Below w.heap.size w w' := by
  have HB0 := Lib.hid (byt_at s i hi)
  have t0 : ¬ (s[i]'hi).toNat < 128 := by omega
  have ta194 : 194 ≤ (s[i]'hi).toNat := by omega
  have ta224 : 224 ≤ (s[i]'hi).toNat := by omega
  have ta240 : 240 ≤ (s[i]'hi).toNat := by omega
  have tb223 : ¬ (s[i]'hi).toNat ≤ 223 := by omega
  have tb239 : ¬ (s[i]'hi).toNat ≤ 239 := by omega
  have tb244 : ¬ (s[i]'hi).toNat ≤ 244 := by omega
  have te224 : (((s[i]'hi).toNat : Int) == 224) = false := by simp; omega
  have te237 : (((s[i]'hi).toNat : Int) == 237) = false := by simp; omega
  have te240 : (((s[i]'hi).toNat : Int) == 240) = false := by simp; omega
  have te244 : (((s[i]'hi).toNat : Int) == 244) = false := by simp; omega
  have hd : decodeGo (s.extract i s.size) = (65533, 1) := by
    rw [zd_at s i hi]; unfold zd
    have h0 := HB0.out
    rw [if_neg (by omega), if_neg (by omega), if_neg (by omega), if_neg (by omega)]
  have HD := Lib.hid hd
  clear hd
  go_enter Tryd.func14, Tryd.ntmps14
  go_wp2_with fail
  go_ret2
  exact ⟨RuneAt.of HD.out rfl, Below.refl _ _⟩
end Go.Proofs.YtcnembabenlheaaDoor
