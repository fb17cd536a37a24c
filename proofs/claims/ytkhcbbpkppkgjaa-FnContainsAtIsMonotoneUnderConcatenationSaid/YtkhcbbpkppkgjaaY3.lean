/-
  Contracts: zzContains, zzCountByte.
-/
import Derived.Test.YtkhcbbpkppkgjaaY2
namespace Go.Proofs.Ytkhcbbpkppkgjaa
open Go.ChangeShapes Go.WideShapes Go.ChangeAt Go.RowKit
set_option linter.unusedVariables false
theorem drewN_drewN (w : World) (a b : Nat) : (w.drewN a).drewN b = w.drewN (a + b) := by
  first | exact World.drewN_drewN .. | (induction b with | zero => rfl | succ n ih => rfl)
theorem not_occ_at (s p : ByteArray) (i j : Nat) (h : i + p.size ≤ s.size) (hj : j < p.size) (hne : (s[i + j]'(by omega)) ≠ p[j]'hj) : ¬ Occ s p i := by
  rw [occ_iff s p i h]
  intro hh
  exact hne (hh j hj)
set_option maxRecDepth 100000 in
set_option maxHeartbeats 2000000 in
theorem zc6 (s p : ByteArray) (hs : s.size ≤ 1048599) (hp0 : 0 < p.size) (hp : p.size ≤ 100) (w : World) : Calls Try.prog 6 #[.string s, .string p] w fun e w' => (∃ b, e = .returned (.bool b) ∧ (b = true ↔ ∃ i, Occ s p i)) ∧ ∃ n, w' = w.drewN n := by
  have HF := Lib.hid (fun i => occ_fits s p i hp0)
  go_enter Try.func6, Try.ntmps6
  go_wp2_with fail
  go_loopw [5] (fun n w' => ∃ i m : Nat, n = .int .i64 i ∧ w' = w.drewN m ∧ i ≤ s.size + 1 ∧ ∀ k, k < i → ¬ Occ s p k) (fun n w' => s.size + 2 - (intOf n).toNat)
  case atStart => exact ⟨0, 0, rfl, rfl, by omega, fun k hk => absurd hk (by omega)⟩
  case round =>
    obtain ⟨i, m, rfl, rfl, hi, hn⟩ := hrel
    have HN := Lib.hid hn; clear hn
    by_cases hle : i + p.size ≤ s.size
    · go_wp2_with fail
      go_loopw [6] (fun n w' => ∃ j m : Nat, n = .int .i64 j ∧ w' = w.drewN m ∧ j ≤ p.size ∧ ∀ k (h : k < p.size), k < j → s[i + k]'(by omega) = p[k]'h) (fun n w' => p.size + 1 - (intOf n).toNat)
      case atStart => exact ⟨0, m, rfl, rfl, by omega, fun k _ hk => absurd hk (by omega)⟩
      case round =>
        obtain ⟨j, m2, rfl, rfl, hj, hall⟩ := hrel
        have HA := Lib.hid hall; clear hall
        by_cases hjp : j < p.size
        · have hij : i + j < s.size := by omega
          have hwr : IntKind.i64.wrap ((i : Int) + (j : Int)) = ((i + j : Nat) : Int) := by
            rw [IntKind.wrap_i64]; omega
          have hk0 : (0 : Int) ≤ (i : Int) + (j : Int) := by omega
          have hk1 : (i : Int) + (j : Int) < (s.size : Int) := by omega
          have hkn : ((i : Int) + (j : Int)).toNat = i + j := by omega
          by_cases he : (s[i + j]'hij) = p[j]'hjp
          · have d : (((s[i + j]'hij).toNat : Int) == ((p[j]'hjp).toNat : Int)) = true := by simp [he]
            have HE := Lib.hid he; clear he
            go_wp2_with fail
            go_quiet (fail)
            go_wp2_with fail
            go_roundw
            case rel =>
              refine ⟨j + 1, _, by simp, rfl, by omega, fun k h hk => ?_⟩
              by_cases hkj : k < j
              · exact HA.out k h hkj
              · obtain rfl : k = j := by omega
                exact HE.out
            case measure => simp only [intOf]; omega
          · have d : (((s[i + j]'hij).toNat : Int) == ((p[j]'hjp).toNat : Int)) = false := by
              simp only [beq_eq_false_iff_ne, ne_eq]
              intro h
              exact he (UInt8.toNat.inj (by omega))
            have HNo := Lib.hid (not_occ_at s p i j hle hjp he)
            clear he
            go_wp2_with fail
            go_quiet (fail)
            go_wp2_with fail
            go_roundw
            case rel =>
              refine ⟨i + 1, _, by simp, rfl, by omega, fun k hk => ?_⟩
              by_cases hki : k < i
              · exact HN.out k hki
              · obtain rfl : k = i := by omega
                exact HNo.out
            case measure => simp only [intOf]; omega
        · obtain rfl : j = p.size := by omega
          have HO := Lib.hid ((occ_iff s p i hle).2 (fun k h => HA.out k h h))
          go_wp2_with fail
          go_quiet (fail)
          go_wp2_with fail
          go_ret
          exact ⟨⟨true, rfl, fun _ => ⟨_, HO.out⟩, fun _ => rfl⟩, _, rfl⟩
    · go_wp2_with fail
      go_ret
      refine ⟨⟨false, rfl, fun h => (by cases h), fun ⟨k, hk⟩ => ?_⟩, _, rfl⟩
      have := HF.out k hk
      exact absurd hk (HN.out k (by omega))
set_option maxRecDepth 100000 in
set_option maxHeartbeats 2000000 in
theorem cnt9 (s : ByteArray) (c : UInt8) (hs : s.size ≤ 1048599) (w : World) : Calls Try.prog 9 #[.string s, .int .u8 c.toNat] w fun e w' => (∃ n : Nat, e = .returned (.int .i64 n) ∧ (n = 0 → ∀ k (h : k < s.size), s[k]'h ≠ c)) ∧ w = w' := by
  go_enter Try.func9, Try.ntmps9
  go_wp2_with fail
  go_loopw [5, 6] (fun a b w' => ∃ n i : Nat, a = .int .i64 n ∧ b = .int .i64 i ∧ w = w' ∧ n ≤ i ∧ i ≤ s.size ∧ (n = 0 → ∀ k (h : k < s.size), k < i → s[k]'h ≠ c)) (fun a b w' => s.size - (intOf b).toNat)
  case atStart => exact ⟨0, 0, rfl, rfl, rfl, by omega, by omega, fun _ k _ hk => absurd hk (by omega)⟩
  case round =>
    obtain ⟨n, i, rfl, rfl, rfl, hni, hi, hall⟩ := hrel
    have HA := Lib.hid hall; clear hall
    by_cases hp : i < s.size
    · by_cases he : (s[i]'hp) = c
      · have d : (((s[i]'hp).toNat : Int) == (c.toNat : Int)) = true := by simp [he]
        clear he
        go_wp2_with fail
        go_roundw
        case rel => exact ⟨n + 1, i + 1, by simp, by simp, by trivial, by omega, by omega, fun h => by omega⟩
        case measure => simp only [intOf]; omega
      · have d : (((s[i]'hp).toNat : Int) == (c.toNat : Int)) = false := by
          simp only [beq_eq_false_iff_ne, ne_eq]
          intro h
          exact he (UInt8.toNat.inj (by omega))
        have HE := Lib.hid he; clear he
        go_wp2_with fail
        go_roundw
        case rel =>
          refine ⟨n, i + 1, rfl, by simp, by trivial, by omega, by omega, fun h0 k h hk => ?_⟩
          by_cases hki : k < i
          · exact HA.out h0 k h hki
          · obtain rfl : k = i := by omega
            exact HE.out
        case measure => simp only [intOf]; omega
    · obtain rfl : i = s.size := by omega
      go_wp2_with fail
      go_ret
      exact ⟨⟨n, rfl, fun h0 k h => HA.out h0 k h h⟩, rfl⟩
end Go.Proofs.Ytkhcbbpkppkgjaa
