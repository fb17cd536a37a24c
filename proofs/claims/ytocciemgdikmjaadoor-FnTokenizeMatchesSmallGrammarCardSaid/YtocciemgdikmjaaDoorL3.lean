/-
  The counting of newlines and the domain of n011_111's laws.
-/
import Derived.Test.YtocciemgdikmjaaDoorC4
import Derived.Deep.DeepCutAuto
namespace Go.Proofs.YtocciemgdikmjaaDoor
open Go.ChangeShapes Go.WideShapes Go.ChangeAt Go.RowKit
open Go.Lib (decodeN decode_at decodeGo)
set_option linter.unusedVariables false
set_option maxRecDepth 100000 in
set_option maxHeartbeats 2000000 in
theorem cb49 (s : ByteArray) (hs : s.size ≤ 1048576) (w : World) : Calls Tryd.prog 49 #[.string s, .int .u8 10] w fun e w' => e = .returned (.int .i64 (cnt s s.size : Nat)) ∧ w = w' := by
  go_enter Tryd.func49, Tryd.ntmps49
  go_wp2_with fail
  go_loopw [5, 6] (fun n i w' => ∃ j m : Nat, i = .int .i64 j ∧ n = .int .i64 m ∧ w = w' ∧ j ≤ s.size ∧ m ≤ j ∧ Hid (m = cnt s j)) (fun n i w' => s.size - (intOf i).toNat)
  case atStart => exact ⟨0, 0, rfl, rfl, rfl, by omega, Nat.le_refl _, Lib.hid rfl⟩
  case round =>
    obtain ⟨j, m, rfl, rfl, rfl, hj, hm, HM⟩ := hrel
    by_cases hlt : j < s.size
    · by_cases h10 : (s[j]'hlt).toNat = 10
      · have d1 : (((s[j]'hlt).toNat : Int) == 10) = true := by rw [beq_iff_eq]; omega
        have HE := Lib.hid (show m + 1 = cnt s (j + 1) by rw [cnt_succ, if_pos ⟨hlt, by rw [← byt_at s j hlt]; exact h10⟩, HM.out])
        clear h10
        go_wp2_with fail
        go_roundw
        case rel => exact ⟨j + 1, m + 1, by simp, by simp, by trivial, by omega, by omega, HE⟩
        case measure => simp only [intOf]; omega
      · have d1 : (((s[j]'hlt).toNat : Int) == 10) = false := by rw [beq_eq_false_iff_ne]; omega
        have HE := Lib.hid (show m = cnt s (j + 1) by rw [cnt_succ, if_neg (fun hh => h10 (by rw [byt_at]; exact hh.2)), HM.out]; rfl)
        clear h10
        go_wp2_with fail
        go_roundw
        case rel => exact ⟨j + 1, m, by simp, by simp, by trivial, by omega, by omega, HE⟩
        case measure => simp only [intOf]; omega
    · obtain rfl : j = s.size := by omega
      have HE := Lib.hid (show ((m : Nat) : Int) = ((cnt s s.size : Nat) : Int) by rw [HM.out])
      go_wp2_with fail
      go_ret
      exact ⟨by rw [← HE.out]; rfl, rfl⟩
end Go.Proofs.YtocciemgdikmjaaDoor
