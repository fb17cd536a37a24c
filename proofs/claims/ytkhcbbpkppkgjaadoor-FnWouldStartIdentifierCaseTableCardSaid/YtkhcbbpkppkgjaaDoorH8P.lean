/-
  zzValidRuneLen_b3, by classes of first bytes (P).
-/
import Derived.Test.YtkhcbbpkppkgjaaDoorH8
namespace Go.Proofs.YtkhcbbpkppkgjaaDoor
open Go.ChangeShapes Go.WideShapes Go.ChangeAt Go.RowKit
set_option linter.unusedVariables false
set_option maxRecDepth 100000 in
set_option maxHeartbeats 4000000 in
theorem vrl194 (s : ByteArray) (i : Nat) (hi : i < s.size) (hs : s.size ≤ 1048576) (b0 : Nat) (e0 : Hid ((s[i]'hi).toNat = b0)) (h0 : 194 ≤ b0) (h0' : b0 ≤ 223) (w : World) :
    Calls Tryd.prog 32 #[.string s, .int .i64 i] w fun e w' => (∃ K : Int, e = .returned (.int .i64 K) ∧ (K = 0 ↔ ¬ okSeq 1 128 191 s i)) ∧ w = w' := by
  have t0 : ¬ (s[i]'hi).toNat < 128 := by have := e0.out; omega
  have ta194 : 194 ≤ (s[i]'hi).toNat := by have := e0.out; omega
  have ta225 : ¬ 225 ≤ (s[i]'hi).toNat := by have := e0.out; omega
  have ta241 : ¬ 241 ≤ (s[i]'hi).toNat := by have := e0.out; omega
  have tb223 : (s[i]'hi).toNat ≤ 223 := by have := e0.out; omega
  have tb236 : (s[i]'hi).toNat ≤ 236 := by have := e0.out; omega
  have tb243 : (s[i]'hi).toNat ≤ 243 := by have := e0.out; omega
  have te224 : (((s[i]'hi).toNat : Int) == 224) = false := by have := e0.out; simp; omega
  have te237 : (((s[i]'hi).toNat : Int) == 237) = false := by have := e0.out; simp; omega
  have te238 : (((s[i]'hi).toNat : Int) == 238) = false := by have := e0.out; simp; omega
  have te239 : (((s[i]'hi).toNat : Int) == 239) = false := by have := e0.out; simp; omega
  have te240 : (((s[i]'hi).toNat : Int) == 240) = false := by have := e0.out; simp; omega
  have te244 : (((s[i]'hi).toNat : Int) == 244) = false := by have := e0.out; simp; omega
  clear h0 h0' e0
  by_cases hn : i + 1 < s.size
  · have q1 : i + 1 < s.size := by omega
    have HB1 := Lib.hid (byt_at s (i + 1) q1)
    by_cases g1 : 128 ≤ (s[i + 1]'q1).toNat
    · by_cases g2 : (s[i + 1]'q1).toNat ≤ 191
      · go_enter Tryd.func32, Tryd.ntmps32
        go_wp2_with fail
        go_loopw [11] (fun n w' => ∃ k : Nat, n = .int .i64 k ∧ w = w' ∧ 2 ≤ k ∧ k ≤ 1 + 1 ∧ ∀ j, 2 ≤ j → j < k → 128 ≤ byt s (i + j) ∧ byt s (i + j) ≤ 191) (fun n w' => 1 + 1 - (intOf n).toNat)
        case atStart => exact ⟨2, rfl, rfl, by omega, by omega, fun j h1 h2 => by omega⟩
        case round =>
          obtain ⟨k, rfl, rfl, hk2, hkn, hall⟩ := hrel
          have HA := Lib.hid hall; clear hall
          by_cases hk : k ≤ 1
          · exfalso; omega
          · obtain rfl : k = 1 + 1 := by omega
            go_wp2_with fail
            go_ret
            refine ⟨⟨1 + 1, rfl, fun h => by omega, fun h => absurd ⟨by omega, ?_, fun j h1 h2 => HA.out j h1 (by omega)⟩ h⟩, rfl⟩
            rw [← HB1.out]; omega
      · go_enter Tryd.func32, Tryd.ntmps32
        go_wp2_with fail
        go_ret
        exact ⟨⟨0, rfl, fun _ ⟨_, h, _⟩ => by rw [← HB1.out] at h; omega, fun _ => rfl⟩, rfl⟩
    · go_enter Tryd.func32, Tryd.ntmps32
      go_wp2_with fail
      go_ret
      exact ⟨⟨0, rfl, fun _ ⟨_, h, _⟩ => by rw [← HB1.out] at h; omega, fun _ => rfl⟩, rfl⟩
  · go_enter Tryd.func32, Tryd.ntmps32
    go_wp2_with fail
    go_ret
    exact ⟨⟨0, rfl, fun _ ⟨h, _⟩ => by omega, fun _ => rfl⟩, rfl⟩
set_option maxRecDepth 100000 in
set_option maxHeartbeats 4000000 in
theorem vrl224 (s : ByteArray) (i : Nat) (hi : i < s.size) (hs : s.size ≤ 1048576) (b0 : Nat) (e0 : Hid ((s[i]'hi).toNat = b0)) (h0 : 224 ≤ b0) (h0' : b0 ≤ 224) (w : World) :
    Calls Tryd.prog 32 #[.string s, .int .i64 i] w fun e w' => (∃ K : Int, e = .returned (.int .i64 K) ∧ (K = 0 ↔ ¬ okSeq 2 160 191 s i)) ∧ w = w' := by
  have t0 : ¬ (s[i]'hi).toNat < 128 := by have := e0.out; omega
  have ta194 : 194 ≤ (s[i]'hi).toNat := by have := e0.out; omega
  have ta225 : ¬ 225 ≤ (s[i]'hi).toNat := by have := e0.out; omega
  have ta241 : ¬ 241 ≤ (s[i]'hi).toNat := by have := e0.out; omega
  have tb223 : ¬ (s[i]'hi).toNat ≤ 223 := by have := e0.out; omega
  have tb236 : (s[i]'hi).toNat ≤ 236 := by have := e0.out; omega
  have tb243 : (s[i]'hi).toNat ≤ 243 := by have := e0.out; omega
  have te224 : (((s[i]'hi).toNat : Int) == 224) = true := by have := e0.out; simp; omega
  have te237 : (((s[i]'hi).toNat : Int) == 237) = false := by have := e0.out; simp; omega
  have te238 : (((s[i]'hi).toNat : Int) == 238) = false := by have := e0.out; simp; omega
  have te239 : (((s[i]'hi).toNat : Int) == 239) = false := by have := e0.out; simp; omega
  have te240 : (((s[i]'hi).toNat : Int) == 240) = false := by have := e0.out; simp; omega
  have te244 : (((s[i]'hi).toNat : Int) == 244) = false := by have := e0.out; simp; omega
  clear h0 h0' e0
  by_cases hn : i + 2 < s.size
  · have q1 : i + 1 < s.size := by omega
    have HB1 := Lib.hid (byt_at s (i + 1) q1)
    by_cases g1 : 160 ≤ (s[i + 1]'q1).toNat
    · by_cases g2 : (s[i + 1]'q1).toNat ≤ 191
      · go_enter Tryd.func32, Tryd.ntmps32
        go_wp2_with fail
        go_loopw [11] (fun n w' => ∃ k : Nat, n = .int .i64 k ∧ w = w' ∧ 2 ≤ k ∧ k ≤ 2 + 1 ∧ ∀ j, 2 ≤ j → j < k → 128 ≤ byt s (i + j) ∧ byt s (i + j) ≤ 191) (fun n w' => 2 + 1 - (intOf n).toNat)
        case atStart => exact ⟨2, rfl, rfl, by omega, by omega, fun j h1 h2 => by omega⟩
        case round =>
          obtain ⟨k, rfl, rfl, hk2, hkn, hall⟩ := hrel
          have HA := Lib.hid hall; clear hall
          by_cases hk : k ≤ 2
          · have qk : i + k < s.size := by omega
            have HBk := Lib.hid (byt_at s (i + k) qk)
            by_cases r1 : 128 ≤ (s[i + k]'qk).toNat
            · by_cases r2 : (s[i + k]'qk).toNat ≤ 191
              · go_wp2_with fail
                go_roundw
                case rel =>
                  refine ⟨k + 1, by simp, by trivial, by omega, by omega, fun j h1 h2 => ?_⟩
                  by_cases hj : j < k
                  · exact HA.out j h1 hj
                  · obtain rfl : j = k := by omega
                    rw [← HBk.out]; omega
                case measure => simp only [intOf]; omega
              · go_wp2_with fail
                go_ret
                exact ⟨⟨0, rfl, fun _ ⟨_, _, h⟩ => by have := h k hk2 hk; rw [← HBk.out] at this; omega, fun _ => rfl⟩, rfl⟩
            · go_wp2_with fail
              go_ret
              exact ⟨⟨0, rfl, fun _ ⟨_, _, h⟩ => by have := h k hk2 hk; rw [← HBk.out] at this; omega, fun _ => rfl⟩, rfl⟩
          · obtain rfl : k = 2 + 1 := by omega
            go_wp2_with fail
            go_ret
            refine ⟨⟨2 + 1, rfl, fun h => by omega, fun h => absurd ⟨by omega, ?_, fun j h1 h2 => HA.out j h1 (by omega)⟩ h⟩, rfl⟩
            rw [← HB1.out]; omega
      · go_enter Tryd.func32, Tryd.ntmps32
        go_wp2_with fail
        go_ret
        exact ⟨⟨0, rfl, fun _ ⟨_, h, _⟩ => by rw [← HB1.out] at h; omega, fun _ => rfl⟩, rfl⟩
    · go_enter Tryd.func32, Tryd.ntmps32
      go_wp2_with fail
      go_ret
      exact ⟨⟨0, rfl, fun _ ⟨_, h, _⟩ => by rw [← HB1.out] at h; omega, fun _ => rfl⟩, rfl⟩
  · go_enter Tryd.func32, Tryd.ntmps32
    go_wp2_with fail
    go_ret
    exact ⟨⟨0, rfl, fun _ ⟨h, _⟩ => by omega, fun _ => rfl⟩, rfl⟩
set_option maxRecDepth 100000 in
set_option maxHeartbeats 4000000 in
theorem vrl225 (s : ByteArray) (i : Nat) (hi : i < s.size) (hs : s.size ≤ 1048576) (b0 : Nat) (e0 : Hid ((s[i]'hi).toNat = b0)) (h0 : 225 ≤ b0) (h0' : b0 ≤ 236) (w : World) :
    Calls Tryd.prog 32 #[.string s, .int .i64 i] w fun e w' => (∃ K : Int, e = .returned (.int .i64 K) ∧ (K = 0 ↔ ¬ okSeq 2 128 191 s i)) ∧ w = w' := by
  have t0 : ¬ (s[i]'hi).toNat < 128 := by have := e0.out; omega
  have ta194 : 194 ≤ (s[i]'hi).toNat := by have := e0.out; omega
  have ta225 : 225 ≤ (s[i]'hi).toNat := by have := e0.out; omega
  have ta241 : ¬ 241 ≤ (s[i]'hi).toNat := by have := e0.out; omega
  have tb223 : ¬ (s[i]'hi).toNat ≤ 223 := by have := e0.out; omega
  have tb236 : (s[i]'hi).toNat ≤ 236 := by have := e0.out; omega
  have tb243 : (s[i]'hi).toNat ≤ 243 := by have := e0.out; omega
  have te224 : (((s[i]'hi).toNat : Int) == 224) = false := by have := e0.out; simp; omega
  have te237 : (((s[i]'hi).toNat : Int) == 237) = false := by have := e0.out; simp; omega
  have te238 : (((s[i]'hi).toNat : Int) == 238) = false := by have := e0.out; simp; omega
  have te239 : (((s[i]'hi).toNat : Int) == 239) = false := by have := e0.out; simp; omega
  have te240 : (((s[i]'hi).toNat : Int) == 240) = false := by have := e0.out; simp; omega
  have te244 : (((s[i]'hi).toNat : Int) == 244) = false := by have := e0.out; simp; omega
  clear h0 h0' e0
  by_cases hn : i + 2 < s.size
  · have q1 : i + 1 < s.size := by omega
    have HB1 := Lib.hid (byt_at s (i + 1) q1)
    by_cases g1 : 128 ≤ (s[i + 1]'q1).toNat
    · by_cases g2 : (s[i + 1]'q1).toNat ≤ 191
      · go_enter Tryd.func32, Tryd.ntmps32
        go_wp2_with fail
        go_loopw [11] (fun n w' => ∃ k : Nat, n = .int .i64 k ∧ w = w' ∧ 2 ≤ k ∧ k ≤ 2 + 1 ∧ ∀ j, 2 ≤ j → j < k → 128 ≤ byt s (i + j) ∧ byt s (i + j) ≤ 191) (fun n w' => 2 + 1 - (intOf n).toNat)
        case atStart => exact ⟨2, rfl, rfl, by omega, by omega, fun j h1 h2 => by omega⟩
        case round =>
          obtain ⟨k, rfl, rfl, hk2, hkn, hall⟩ := hrel
          have HA := Lib.hid hall; clear hall
          by_cases hk : k ≤ 2
          · have qk : i + k < s.size := by omega
            have HBk := Lib.hid (byt_at s (i + k) qk)
            by_cases r1 : 128 ≤ (s[i + k]'qk).toNat
            · by_cases r2 : (s[i + k]'qk).toNat ≤ 191
              · go_wp2_with fail
                go_roundw
                case rel =>
                  refine ⟨k + 1, by simp, by trivial, by omega, by omega, fun j h1 h2 => ?_⟩
                  by_cases hj : j < k
                  · exact HA.out j h1 hj
                  · obtain rfl : j = k := by omega
                    rw [← HBk.out]; omega
                case measure => simp only [intOf]; omega
              · go_wp2_with fail
                go_ret
                exact ⟨⟨0, rfl, fun _ ⟨_, _, h⟩ => by have := h k hk2 hk; rw [← HBk.out] at this; omega, fun _ => rfl⟩, rfl⟩
            · go_wp2_with fail
              go_ret
              exact ⟨⟨0, rfl, fun _ ⟨_, _, h⟩ => by have := h k hk2 hk; rw [← HBk.out] at this; omega, fun _ => rfl⟩, rfl⟩
          · obtain rfl : k = 2 + 1 := by omega
            go_wp2_with fail
            go_ret
            refine ⟨⟨2 + 1, rfl, fun h => by omega, fun h => absurd ⟨by omega, ?_, fun j h1 h2 => HA.out j h1 (by omega)⟩ h⟩, rfl⟩
            rw [← HB1.out]; omega
      · go_enter Tryd.func32, Tryd.ntmps32
        go_wp2_with fail
        go_ret
        exact ⟨⟨0, rfl, fun _ ⟨_, h, _⟩ => by rw [← HB1.out] at h; omega, fun _ => rfl⟩, rfl⟩
    · go_enter Tryd.func32, Tryd.ntmps32
      go_wp2_with fail
      go_ret
      exact ⟨⟨0, rfl, fun _ ⟨_, h, _⟩ => by rw [← HB1.out] at h; omega, fun _ => rfl⟩, rfl⟩
  · go_enter Tryd.func32, Tryd.ntmps32
    go_wp2_with fail
    go_ret
    exact ⟨⟨0, rfl, fun _ ⟨h, _⟩ => by omega, fun _ => rfl⟩, rfl⟩
end Go.Proofs.YtkhcbbpkppkgjaaDoor
