/-
  zzDecodeRune, classes of first bytes.
-/
import Derived.Test.YtcnembabenlheaaDoorZ1
namespace Go.Proofs.YtcnembabenlheaaDoor
open Go.ChangeShapes Go.WideShapes Go.ChangeAt Go.RowKit
open Go.Lib (decodeN decode_at decodeGo)
set_option linter.unusedVariables false
set_option maxRecDepth 100000 in
set_option maxHeartbeats 4000000 in
theorem dr14_d1 (s : ByteArray) (i : Nat) (hi : i < s.size) (hs : s.size ≤ 1048576) (h1 : 241 ≤ (s[i]'hi).toNat) (h2 : (s[i]'hi).toNat ≤ 243) (w : World) :
    Calls Tryd.prog 14 #[.string s, .int .i64 i] w fun e w' => RuneAt s i e ∧ Below w.heap.size w w' := by
  have HB0 := Lib.hid (byt_at s i hi)
  have t0 : ¬ (s[i]'hi).toNat < 128 := by omega
  have ta194 : 194 ≤ (s[i]'hi).toNat := by omega
  have ta224 : 224 ≤ (s[i]'hi).toNat := by omega
  have ta240 : 240 ≤ (s[i]'hi).toNat := by omega
  have tb223 : ¬ (s[i]'hi).toNat ≤ 223 := by omega
  have tb239 : ¬ (s[i]'hi).toNat ≤ 239 := by omega
  have tb244 : (s[i]'hi).toNat ≤ 244 := by omega
  have te224 : (((s[i]'hi).toNat : Int) == 224) = false := by simp; omega
  have te237 : (((s[i]'hi).toNat : Int) == 237) = false := by simp; omega
  have te240 : (((s[i]'hi).toNat : Int) == 240) = false := by simp; omega
  have te244 : (((s[i]'hi).toNat : Int) == 244) = false := by simp; omega
  by_cases hn : i + 3 < s.size
  · have q1 : i + 1 < s.size := by omega
    have HB1 := Lib.hid (byt_at s (i + 1) q1)
    by_cases g1 : 128 ≤ (s[i + 1]'q1).toNat
    · by_cases k1 : (s[i + 1]'q1).toNat ≤ 191
      · have q2 : i + 2 < s.size := by omega
        have HB2 := Lib.hid (byt_at s (i + 2) q2)
        by_cases g2 : 128 ≤ (s[i + 2]'q2).toNat
        · by_cases k2 : (s[i + 2]'q2).toNat ≤ 191
          · have q3 : i + 3 < s.size := by omega
            have HB3 := Lib.hid (byt_at s (i + 3) q3)
            by_cases g3 : 128 ≤ (s[i + 3]'q3).toNat
            · by_cases k3 : (s[i + 3]'q3).toNat ≤ 191
              · have hd : decodeGo (s.extract i s.size) = (byt s i % 8 * 262144 + byt s (i + 1) % 64 * 4096 + byt s (i + 2) % 64 * 64 + byt s (i + 3) % 64, 4) := by
                  rw [zd_at s i hi]; unfold zd
                  have h0 := HB0.out
                  have h1 := HB1.out
                  have h2 := HB2.out
                  have h3 := HB3.out
                  rw [if_neg (by omega), if_neg (by omega), if_neg (by omega), if_pos (by omega), if_neg (show ¬ byt s i = 240 by omega), if_neg (show ¬ byt s i = 244 by omega), if_pos (by omega)]
                have HD := Lib.hid hd
                clear hd
                have x11 : (0 : Int) ≤ (i : Int) + 1 := by omega
                have x12 : (i : Int) + 1 < (s.size : Int) := by omega
                have x13 : ((i : Int) + 1).toNat = i + 1 := by omega
                have x14 : IntKind.i64.wrap ((i : Int) + 1) = (i : Int) + 1 := by rw [IntKind.wrap_i64]; omega
                have x21 : (0 : Int) ≤ (i : Int) + 2 := by omega
                have x22 : (i : Int) + 2 < (s.size : Int) := by omega
                have x23 : ((i : Int) + 2).toNat = i + 2 := by omega
                have x24 : IntKind.i64.wrap ((i : Int) + 2) = (i : Int) + 2 := by rw [IntKind.wrap_i64]; omega
                have x31 : (0 : Int) ≤ (i : Int) + 3 := by omega
                have x32 : (i : Int) + 3 < (s.size : Int) := by omega
                have x33 : ((i : Int) + 3).toNat = i + 3 := by omega
                have x34 : IntKind.i64.wrap ((i : Int) + 3) = (i : Int) + 3 := by rw [IntKind.wrap_i64]; omega
                go_enter Tryd.func14, Tryd.ntmps14
                go_wp2_with fail
                go_quiet (fail)
                go_wp2_with fail
                go_ret2
                refine ⟨RuneAt.of HD.out ?_, below_dn (Below.refl _ _) _⟩
                rw [← HB0.out, ← HB1.out, ← HB2.out, ← HB3.out]
                simp
              · have hd : decodeGo (s.extract i s.size) = (65533, 1) := by
                  rw [zd_at s i hi]; unfold zd
                  have h0 := HB0.out
                  have h1 := HB1.out
                  have h2 := HB2.out
                  have h3 := HB3.out
                  rw [if_neg (by omega), if_neg (by omega), if_neg (by omega), if_pos (by omega), if_neg (show ¬ byt s i = 240 by omega), if_neg (show ¬ byt s i = 244 by omega), if_neg (by omega)]
                have HD := Lib.hid hd
                clear hd
                go_enter Tryd.func14, Tryd.ntmps14
                go_wp2_with fail
                go_ret2
                exact ⟨RuneAt.of HD.out rfl, Below.refl _ _⟩
            · have hd : decodeGo (s.extract i s.size) = (65533, 1) := by
                rw [zd_at s i hi]; unfold zd
                have h0 := HB0.out
                have h1 := HB1.out
                have h2 := HB2.out
                have h3 := HB3.out
                rw [if_neg (by omega), if_neg (by omega), if_neg (by omega), if_pos (by omega), if_neg (show ¬ byt s i = 240 by omega), if_neg (show ¬ byt s i = 244 by omega), if_neg (by omega)]
              have HD := Lib.hid hd
              clear hd
              go_enter Tryd.func14, Tryd.ntmps14
              go_wp2_with fail
              go_ret2
              exact ⟨RuneAt.of HD.out rfl, Below.refl _ _⟩
          · have hd : decodeGo (s.extract i s.size) = (65533, 1) := by
              rw [zd_at s i hi]; unfold zd
              have h0 := HB0.out
              have h1 := HB1.out
              have h2 := HB2.out
              rw [if_neg (by omega), if_neg (by omega), if_neg (by omega), if_pos (by omega), if_neg (show ¬ byt s i = 240 by omega), if_neg (show ¬ byt s i = 244 by omega), if_neg (by omega)]
            have HD := Lib.hid hd
            clear hd
            go_enter Tryd.func14, Tryd.ntmps14
            go_wp2_with fail
            go_ret2
            exact ⟨RuneAt.of HD.out rfl, Below.refl _ _⟩
        · have hd : decodeGo (s.extract i s.size) = (65533, 1) := by
            rw [zd_at s i hi]; unfold zd
            have h0 := HB0.out
            have h1 := HB1.out
            have h2 := HB2.out
            rw [if_neg (by omega), if_neg (by omega), if_neg (by omega), if_pos (by omega), if_neg (show ¬ byt s i = 240 by omega), if_neg (show ¬ byt s i = 244 by omega), if_neg (by omega)]
          have HD := Lib.hid hd
          clear hd
          go_enter Tryd.func14, Tryd.ntmps14
          go_wp2_with fail
          go_ret2
          exact ⟨RuneAt.of HD.out rfl, Below.refl _ _⟩
      · have hd : decodeGo (s.extract i s.size) = (65533, 1) := by
          rw [zd_at s i hi]; unfold zd
          have h0 := HB0.out
          have h1 := HB1.out
          rw [if_neg (by omega), if_neg (by omega), if_neg (by omega), if_pos (by omega), if_neg (show ¬ byt s i = 240 by omega), if_neg (show ¬ byt s i = 244 by omega), if_neg (by omega)]
        have HD := Lib.hid hd
        clear hd
        go_enter Tryd.func14, Tryd.ntmps14
        go_wp2_with fail
        go_ret2
        exact ⟨RuneAt.of HD.out rfl, Below.refl _ _⟩
    · have hd : decodeGo (s.extract i s.size) = (65533, 1) := by
        rw [zd_at s i hi]; unfold zd
        have h0 := HB0.out
        have h1 := HB1.out
        rw [if_neg (by omega), if_neg (by omega), if_neg (by omega), if_pos (by omega), if_neg (show ¬ byt s i = 240 by omega), if_neg (show ¬ byt s i = 244 by omega), if_neg (by omega)]
      have HD := Lib.hid hd
      clear hd
      go_enter Tryd.func14, Tryd.ntmps14
      go_wp2_with fail
      go_ret2
      exact ⟨RuneAt.of HD.out rfl, Below.refl _ _⟩
  · have hd : decodeGo (s.extract i s.size) = (65533, 1) := by
      rw [zd_at s i hi]; unfold zd
      have h0 := HB0.out
      rw [if_neg (by omega), if_neg (by omega), if_neg (by omega), if_pos (by omega), if_neg (show ¬ byt s i = 240 by omega), if_neg (show ¬ byt s i = 244 by omega), if_neg (by omega)]
    have HD := Lib.hid hd
    clear hd
    go_enter Tryd.func14, Tryd.ntmps14
    go_wp2_with fail
    go_ret2
    exact ⟨RuneAt.of HD.out rfl, Below.refl _ _⟩
end Go.Proofs.YtcnembabenlheaaDoor
