/-
  The small functions of FnRangeOfIdentifierEscapeFreeIsNameRun; RangeOfIdentifier over a run of name bytes.
-/
import Derived.Test.YtkhcbbpkppkgjaaDoorH3
import Derived.Deep.QuietTactic
import Derived.Deep.Draws
import Derived.BigQuiet
namespace Go.Proofs.YtkhcbbpkppkgjaaDoor
open Go.ChangeShapes Go.WideShapes Go.ChangeAt Go.RowKit
open Go.Lib (decodeN decode_at decodeGo)
set_option linter.unusedVariables false
theorem ret_int {a b : Int} (h : a = b) : Ending.returned (.int .i64 a) = .returned (.int .i64 b) := by rw [h]
theorem nsbx (c : Int) (h : c < 128) (w : World) : Calls Tryd.prog 31 #[.int .u8 c] w fun e w' => e = .returned (.bool (nsB c)) ∧ w = w' := by
  by_cases h5 : c = 95
  · subst h5; go_enter Tryd.func31, Tryd.ntmps31; go_wp2; go_ret; exact ⟨by simp [nsB], rfl⟩
  have h5' : (c == 95) = false := by simp [h5]
  by_cases h6 : c = 0
  · subst h6; go_enter Tryd.func31, Tryd.ntmps31; go_wp2; go_ret; exact ⟨by simp [nsB], rfl⟩
  have h6' : (c == 0) = false := by simp [h6]
  have h7 : ¬ 128 ≤ c := by omega
  by_cases h1 : 97 ≤ c <;> by_cases h2 : c ≤ 122 <;> by_cases h3 : 65 ≤ c <;> by_cases h4 : c ≤ 90 <;> (try omega) <;> (go_enter Tryd.func31, Tryd.ntmps31; go_wp2; go_ret; exact ⟨by simp [nsB, *], rfl⟩)
set_option maxRecDepth 100000 in
set_option maxHeartbeats 2000000 in
theorem nc36 (c : Int) (w : World) : Calls Tryd.prog 36 #[.int .u8 c] w fun e w' => e = .returned (.bool (ncB c)) ∧ w = w' := by
  by_cases h : 128 ≤ c
  · have HR := Lib.hid (ncB_high c h)
    go_enter Tryd.func36, Tryd.ntmps36
    go_wp2_with fail
    go_ret
    exact ⟨ret_bool HR.out.symm, rfl⟩
  have H31 := Lib.hid (fun w => nsbx c (by omega) w)
  cases hn : nsB c
  · rw [hn] at H31
    have HR := Lib.hid (show ncB c = decide ((48 ≤ c ∧ c ≤ 57) ∨ c = 45) by unfold ncB; rw [hn]; rfl)
    clear hn
    by_cases h1 : 48 ≤ c
    · by_cases h2 : c ≤ 57
      · have HR2 := Lib.hid (show ncB c = true by rw [HR.out]; exact decide_eq_true (by omega))
        clear HR
        go_enter Tryd.func36, Tryd.ntmps36
        go_wp2_with fail
        refine (H31.out _).mono ?_
        rintro e w2 ⟨rfl, rfl⟩
        go_wp2_with fail
        go_ret
        exact ⟨ret_bool (by first | exact HR2.out.symm | (rw [HR2.out]; exact decide_eq_false (by omega))), rfl⟩
      · have d : (c == 45) = false := by simp; omega
        have HR2 := Lib.hid (show ncB c = false by rw [HR.out]; exact decide_eq_false (by omega))
        clear HR
        go_enter Tryd.func36, Tryd.ntmps36
        go_wp2_with fail
        refine (H31.out _).mono ?_
        rintro e w2 ⟨rfl, rfl⟩
        go_wp2_with fail
        go_ret
        exact ⟨ret_bool (by first | exact HR2.out.symm | (rw [HR2.out]; exact decide_eq_false (by omega))), rfl⟩
    · by_cases h3 : c = 45
      · subst h3
        have HR2 := Lib.hid (show ncB 45 = true by decide)
        clear HR h1
        go_enter Tryd.func36, Tryd.ntmps36
        go_wp2_with fail
        refine (H31.out _).mono ?_
        rintro e w2 ⟨rfl, rfl⟩
        go_wp2_with fail
        go_ret
        exact ⟨ret_bool (by first | exact HR2.out.symm | (rw [HR2.out]; exact decide_eq_false (by omega))), rfl⟩
      · have d : (c == 45) = false := by simp; omega
        have HR2 := Lib.hid (show ncB c = false by rw [HR.out]; exact decide_eq_false (by omega))
        clear HR
        go_enter Tryd.func36, Tryd.ntmps36
        go_wp2_with fail
        refine (H31.out _).mono ?_
        rintro e w2 ⟨rfl, rfl⟩
        go_wp2_with fail
        go_ret
        exact ⟨ret_bool (by first | exact HR2.out.symm | (rw [HR2.out]; exact decide_eq_false (by omega))), rfl⟩
  · rw [hn] at H31
    have HR := Lib.hid (show ncB c = true by unfold ncB; rw [hn]; rfl)
    clear hn
    go_enter Tryd.func36, Tryd.ntmps36
    go_wp2_with fail
    refine (H31.out _).mono ?_
    rintro e w2 ⟨rfl, rfl⟩
    go_wp2_with fail
    go_ret
    exact ⟨ret_bool HR.out.symm, rfl⟩
set_option maxRecDepth 100000 in
set_option maxHeartbeats 2000000 in
theorem nc41 (c : Int) (w : World) : Calls Tryd.prog 41 #[.int .i32 c] w fun e w' => e = .returned (.bool (ncB c)) ∧ w = w' := by
  have H31 := Lib.hid (fun w => ns_any c w)
  cases hn : nsB c
  · rw [hn] at H31
    have HR := Lib.hid (show ncB c = decide ((48 ≤ c ∧ c ≤ 57) ∨ c = 45) by unfold ncB; rw [hn]; rfl)
    clear hn
    by_cases h1 : 48 ≤ c
    · by_cases h2 : c ≤ 57
      · have HR2 := Lib.hid (show ncB c = true by rw [HR.out]; exact decide_eq_true (by omega))
        clear HR
        go_enter Tryd.func41, Tryd.ntmps41
        go_wp2_with fail
        refine (H31.out _).mono ?_
        rintro e w2 ⟨rfl, rfl⟩
        go_wp2_with fail
        go_ret
        exact ⟨ret_bool (by first | exact HR2.out.symm | (rw [HR2.out]; exact decide_eq_false (by omega))), rfl⟩
      · have d : (c == 45) = false := by simp; omega
        have HR2 := Lib.hid (show ncB c = false by rw [HR.out]; exact decide_eq_false (by omega))
        clear HR
        go_enter Tryd.func41, Tryd.ntmps41
        go_wp2_with fail
        refine (H31.out _).mono ?_
        rintro e w2 ⟨rfl, rfl⟩
        go_wp2_with fail
        go_ret
        exact ⟨ret_bool (by first | exact HR2.out.symm | (rw [HR2.out]; exact decide_eq_false (by omega))), rfl⟩
    · by_cases h3 : c = 45
      · subst h3
        have HR2 := Lib.hid (show ncB 45 = true by decide)
        clear HR h1
        go_enter Tryd.func41, Tryd.ntmps41
        go_wp2_with fail
        refine (H31.out _).mono ?_
        rintro e w2 ⟨rfl, rfl⟩
        go_wp2_with fail
        go_ret
        exact ⟨ret_bool (by first | exact HR2.out.symm | (rw [HR2.out]; exact decide_eq_false (by omega))), rfl⟩
      · have d : (c == 45) = false := by simp; omega
        have HR2 := Lib.hid (show ncB c = false by rw [HR.out]; exact decide_eq_false (by omega))
        clear HR
        go_enter Tryd.func41, Tryd.ntmps41
        go_wp2_with fail
        refine (H31.out _).mono ?_
        rintro e w2 ⟨rfl, rfl⟩
        go_wp2_with fail
        go_ret
        exact ⟨ret_bool (by first | exact HR2.out.symm | (rw [HR2.out]; exact decide_eq_false (by omega))), rfl⟩
  · rw [hn] at H31
    have HR := Lib.hid (show ncB c = true by unfold ncB; rw [hn]; rfl)
    clear hn
    go_enter Tryd.func41, Tryd.ntmps41
    go_wp2_with fail
    refine (H31.out _).mono ?_
    rintro e w2 ⟨rfl, rfl⟩
    go_wp2_with fail
    go_ret
    exact ⟨ret_bool HR.out.symm, rfl⟩
/-- a name byte is no whitespace -/
theorem ws43 (c : Int) (h : ncB c = true) (w : World) : Calls Tryd.prog 43 #[.int .i32 c] w fun e w' => e = .returned (.bool false) ∧ w = w' := by
  have hx : c ≠ 32 ∧ c ≠ 9 ∧ c ≠ 10 ∧ c ≠ 13 ∧ c ≠ 12 := by
    refine ⟨?_, ?_, ?_, ?_, ?_⟩ <;> (rintro rfl; simp [ncB, nsB] at h)
  have h1 : (c == 32) = false := by simp [hx]
  have h2 : (c == 9) = false := by simp [hx]
  have h3 : (c == 10) = false := by simp [hx]
  have h4 : (c == 13) = false := by simp [hx]
  have h5 : (c == 12) = false := by simp [hx]
  clear hx h
  go_enter Tryd.func43, Tryd.ntmps43
  go_wp2
  go_ret
  exact ⟨rfl, rfl⟩
set_option maxRecDepth 100000 in
set_option maxHeartbeats 1000000 in
theorem hb18 (s : ByteArray) (hs : s.size ≤ 1048576) (w : World) : Calls Tryd.prog 18 #[.string s] w fun e w' => (∃ b, e = .returned (.bool b) ∧ (b = false → ∀ k (h : k < s.size), (s[k]'h).toNat ≠ 92)) ∧ w = w' := by
  go_enter Tryd.func18, Tryd.ntmps18
  go_wp2_with fail
  go_loopw [3] (fun a w' => ∃ i : Nat, a = .int .i64 i ∧ w = w' ∧ i ≤ s.size ∧ ∀ k (h : k < s.size), k < i → (s[k]'h).toNat ≠ 92) (fun a w' => s.size - (intOf a).toNat)
  case atStart => exact ⟨0, rfl, rfl, by omega, fun k _ hk => absurd hk (by omega)⟩
  case round =>
    obtain ⟨i, rfl, rfl, hi, hall⟩ := hrel
    have HA := Lib.hid hall; clear hall
    by_cases hp : i < s.size
    · by_cases he : (s[i]'hp).toNat = 92
      · have d : (((s[i]'hp).toNat : Int) == 92) = true := by simp; omega
        clear he
        go_wp2_with fail
        go_ret
        exact ⟨⟨true, rfl, fun h => by cases h⟩, rfl⟩
      · have d : (((s[i]'hp).toNat : Int) == 92) = false := by simp; omega
        have HE := Lib.hid he; clear he
        go_wp2_with fail
        go_roundw
        case rel =>
          refine ⟨i + 1, by simp, by trivial, by omega, fun k h hk => ?_⟩
          by_cases hki : k < i
          · exact HA.out k h hki
          · obtain rfl : k = i := by omega
            exact HE.out
        case measure => simp only [intOf]; omega
    · obtain rfl : i = s.size := by omega
      go_wp2_with fail
      go_ret
      exact ⟨⟨false, rfl, fun _ k h => HA.out k h h⟩, rfl⟩
set_option maxRecDepth 100000 in
set_option maxHeartbeats 1000000 in
theorem nr19 (s : ByteArray) (hs : s.size ≤ 1048576) (f : Nat) (hf : f ≤ s.size) (w : World) : Calls Tryd.prog 19 #[.string s, .int .i64 f] w fun e w' => (∃ r : Nat, e = .returned (.int .i64 r) ∧ Run s f r) ∧ w = w' := by
  go_enter Tryd.func19, Tryd.ntmps19
  go_wp2_with fail
  go_loopw [5] (fun a w' => ∃ r : Nat, a = .int .i64 (f + r : Nat) ∧ w = w' ∧ f + r ≤ s.size ∧ ∀ k (h : f + k < s.size), k < r → ncB (s[f + k]'h).toNat = true) (fun a w' => s.size - (intOf a).toNat)
  case atStart => exact ⟨0, rfl, rfl, by omega, fun k _ hk => absurd hk (by omega)⟩
  case round =>
    obtain ⟨r, rfl, rfl, hi, hall⟩ := hrel
    have HA := Lib.hid hall; clear hall
    by_cases hp : f + r < s.size
    · have HC := Lib.hid (fun w => nc36 (s[f + r]'hp).toNat w)
      cases he : ncB (s[f + r]'hp).toNat
      · rw [he] at HC
        have HE := Lib.hid he; clear he
        go_wp2_with (go_at_call 36; refine (HC.out _).mono ?_; rintro e w2 ⟨rfl, rfl⟩)
        go_ret
        refine ⟨⟨r, ret_int (by omega), ⟨by omega, HA.out, fun _ => HE.out⟩⟩, rfl⟩
      · rw [he] at HC
        have HE := Lib.hid he; clear he
        go_wp2_with (go_at_call 36; refine (HC.out _).mono ?_; rintro e w2 ⟨rfl, rfl⟩)
        go_roundw
        case rel =>
          refine ⟨r + 1, by simp; omega, by trivial, by omega, fun k h hk => ?_⟩
          by_cases hki : k < r
          · exact HA.out k h hki
          · obtain rfl : k = r := by omega
            exact HE.out
        case measure => simp only [intOf]; omega
    · have hpe : f + r = s.size := by omega
      go_wp2_with fail
      go_ret
      refine ⟨⟨r, ret_int (by omega), ⟨by omega, HA.out, fun h => absurd h hp⟩⟩, rfl⟩
end Go.Proofs.YtkhcbbpkppkgjaaDoor
