/-
  The small functions of n011_170's laws.
-/
import Derived.Test.YtocciemgdikmjaaDoorQ3
namespace Go.Proofs.YtocciemgdikmjaaDoor
open Go.ChangeShapes Go.WideShapes Go.ChangeAt Go.RowKit
open Go.Lib (decodeN decode_at decodeGo)
set_option linter.unusedVariables false
theorem w52 (c : Nat) (w : World) : Calls Tryd.prog 52 #[.int .u8 c] w fun e w' => e = .returned (.bool (wsC c)) ∧ w = w' := by
  by_cases h32 : c = 32
  · subst h32
    have HR := Lib.hid (show wsC 32 = true by decide)
    go_enter Tryd.func52, Tryd.ntmps52
    go_wp2_with fail
    go_ret
    exact ⟨ret_bool HR.out.symm, rfl⟩
  by_cases h9 : c = 9
  · subst h9
    have HR := Lib.hid (show wsC 9 = true by decide)
    go_enter Tryd.func52, Tryd.ntmps52
    go_wp2_with fail
    go_ret
    exact ⟨ret_bool HR.out.symm, rfl⟩
  by_cases h10 : c = 10
  · subst h10
    have HR := Lib.hid (show wsC 10 = true by decide)
    go_enter Tryd.func52, Tryd.ntmps52
    go_wp2_with fail
    go_ret
    exact ⟨ret_bool HR.out.symm, rfl⟩
  by_cases h13 : c = 13
  · subst h13
    have HR := Lib.hid (show wsC 13 = true by decide)
    go_enter Tryd.func52, Tryd.ntmps52
    go_wp2_with fail
    go_ret
    exact ⟨ret_bool HR.out.symm, rfl⟩
  by_cases h12 : c = 12
  · subst h12
    have HR := Lib.hid (show wsC 12 = true by decide)
    go_enter Tryd.func52, Tryd.ntmps52
    go_wp2_with fail
    go_ret
    exact ⟨ret_bool HR.out.symm, rfl⟩
  have HR := Lib.hid (show wsC c = false by unfold wsC; simp; omega)
  have d32 : ((c : Int) == 32) = false := by rw [beq_eq_false_iff_ne]; omega
  have d9 : ((c : Int) == 9) = false := by rw [beq_eq_false_iff_ne]; omega
  have d10 : ((c : Int) == 10) = false := by rw [beq_eq_false_iff_ne]; omega
  have d13 : ((c : Int) == 13) = false := by rw [beq_eq_false_iff_ne]; omega
  have d12 : ((c : Int) == 12) = false := by rw [beq_eq_false_iff_ne]; omega
  clear h32 h9 h10 h13 h12
  go_enter Tryd.func52, Tryd.ntmps52
  go_wp2_with fail
  go_ret
  exact ⟨ret_bool HR.out.symm, rfl⟩
theorem n41 (c : Nat) (w : World) : Calls Tryd.prog 41 #[.int .u8 c] w fun e w' => e = .returned (.bool (nlC c)) ∧ w = w' := by
  by_cases h10 : c = 10
  · subst h10
    have HR := Lib.hid (show nlC 10 = true by decide)
    go_enter Tryd.func41, Tryd.ntmps41
    go_wp2_with fail
    go_ret
    exact ⟨ret_bool HR.out.symm, rfl⟩
  by_cases h13 : c = 13
  · subst h13
    have HR := Lib.hid (show nlC 13 = true by decide)
    go_enter Tryd.func41, Tryd.ntmps41
    go_wp2_with fail
    go_ret
    exact ⟨ret_bool HR.out.symm, rfl⟩
  by_cases h12 : c = 12
  · subst h12
    have HR := Lib.hid (show nlC 12 = true by decide)
    go_enter Tryd.func41, Tryd.ntmps41
    go_wp2_with fail
    go_ret
    exact ⟨ret_bool HR.out.symm, rfl⟩
  have HR := Lib.hid (show nlC c = false by unfold nlC; simp; omega)
  have d10 : ((c : Int) == 10) = false := by rw [beq_eq_false_iff_ne]; omega
  have d13 : ((c : Int) == 13) = false := by rw [beq_eq_false_iff_ne]; omega
  have d12 : ((c : Int) == 12) = false := by rw [beq_eq_false_iff_ne]; omega
  clear h10 h13 h12
  go_enter Tryd.func41, Tryd.ntmps41
  go_wp2_with fail
  go_ret
  exact ⟨ret_bool HR.out.symm, rfl⟩
def nbC (b : Nat) : Bool := ncB (b : Int)
theorem nb40 (c : Nat) (w : World) : Calls Tryd.prog 40 #[.int .u8 c] w fun e w' => e = .returned (.bool (nbC c)) ∧ w = w' := by
  by_cases h95 : c = 95
  · subst h95
    have HR := Lib.hid (show nbC 95 = true by decide)
    go_enter Tryd.func40, Tryd.ntmps40
    go_wp2_with fail
    go_ret
    exact ⟨ret_bool HR.out.symm, rfl⟩
  by_cases h45 : c = 45
  · subst h45
    have HR := Lib.hid (show nbC 45 = true by decide)
    go_enter Tryd.func40, Tryd.ntmps40
    go_wp2_with fail
    go_ret
    exact ⟨ret_bool HR.out.symm, rfl⟩
  by_cases h0 : c = 0
  · subst h0
    have HR := Lib.hid (show nbC 0 = true by decide)
    go_enter Tryd.func40, Tryd.ntmps40
    go_wp2_with fail
    go_ret
    exact ⟨ret_bool HR.out.symm, rfl⟩
  have d95 : ((c : Int) == 95) = false := by rw [beq_eq_false_iff_ne]; omega
  have d45 : ((c : Int) == 45) = false := by rw [beq_eq_false_iff_ne]; omega
  have d0 : ((c : Int) == 0) = false := by rw [beq_eq_false_iff_ne]; omega
  by_cases r0 : c ≤ 47
  · have HR := Lib.hid (show nbC c = false from by unfold nbC ncB nsB; simp; omega)
    have f97 : ¬ (97 : Int) ≤ (c : Int) := by omega
    have f65 : ¬ (65 : Int) ≤ (c : Int) := by omega
    have f48 : ¬ (48 : Int) ≤ (c : Int) := by omega
    have f128 : ¬ (128 : Int) ≤ (c : Int) := by omega
    have t122 : (c : Int) ≤ 122 := by omega
    have t90 : (c : Int) ≤ 90 := by omega
    have t57 : (c : Int) ≤ 57 := by omega
    clear h95 h45 h0 r0
    go_enter Tryd.func40, Tryd.ntmps40
    go_wp2_with fail
    go_ret
    exact ⟨ret_bool HR.out.symm, rfl⟩
  by_cases r1 : c ≤ 57
  · have HR := Lib.hid (show nbC c = true from by unfold nbC ncB nsB; simp; omega)
    have f97 : ¬ (97 : Int) ≤ (c : Int) := by omega
    have f65 : ¬ (65 : Int) ≤ (c : Int) := by omega
    have f48 : (48 : Int) ≤ (c : Int) := by omega
    have f128 : ¬ (128 : Int) ≤ (c : Int) := by omega
    have t122 : (c : Int) ≤ 122 := by omega
    have t90 : (c : Int) ≤ 90 := by omega
    have t57 : (c : Int) ≤ 57 := by omega
    clear h95 h45 h0 r1
    go_enter Tryd.func40, Tryd.ntmps40
    go_wp2_with fail
    go_ret
    exact ⟨ret_bool HR.out.symm, rfl⟩
  by_cases r2 : c ≤ 64
  · have HR := Lib.hid (show nbC c = false from by unfold nbC ncB nsB; simp; omega)
    have f97 : ¬ (97 : Int) ≤ (c : Int) := by omega
    have f65 : ¬ (65 : Int) ≤ (c : Int) := by omega
    have f48 : (48 : Int) ≤ (c : Int) := by omega
    have f128 : ¬ (128 : Int) ≤ (c : Int) := by omega
    have t122 : (c : Int) ≤ 122 := by omega
    have t90 : (c : Int) ≤ 90 := by omega
    have t57 : ¬ (c : Int) ≤ 57 := by omega
    clear h95 h45 h0 r2
    go_enter Tryd.func40, Tryd.ntmps40
    go_wp2_with fail
    go_ret
    exact ⟨ret_bool HR.out.symm, rfl⟩
  by_cases r3 : c ≤ 90
  · have HR := Lib.hid (show nbC c = true from by unfold nbC ncB nsB; simp; omega)
    have f97 : ¬ (97 : Int) ≤ (c : Int) := by omega
    have f65 : (65 : Int) ≤ (c : Int) := by omega
    have f48 : (48 : Int) ≤ (c : Int) := by omega
    have f128 : ¬ (128 : Int) ≤ (c : Int) := by omega
    have t122 : (c : Int) ≤ 122 := by omega
    have t90 : (c : Int) ≤ 90 := by omega
    have t57 : ¬ (c : Int) ≤ 57 := by omega
    clear h95 h45 h0 r3
    go_enter Tryd.func40, Tryd.ntmps40
    go_wp2_with fail
    go_ret
    exact ⟨ret_bool HR.out.symm, rfl⟩
  by_cases r4 : c ≤ 96
  · have HR := Lib.hid (show nbC c = false from by unfold nbC ncB nsB; simp; omega)
    have f97 : ¬ (97 : Int) ≤ (c : Int) := by omega
    have f65 : (65 : Int) ≤ (c : Int) := by omega
    have f48 : (48 : Int) ≤ (c : Int) := by omega
    have f128 : ¬ (128 : Int) ≤ (c : Int) := by omega
    have t122 : (c : Int) ≤ 122 := by omega
    have t90 : ¬ (c : Int) ≤ 90 := by omega
    have t57 : ¬ (c : Int) ≤ 57 := by omega
    clear h95 h45 h0 r4
    go_enter Tryd.func40, Tryd.ntmps40
    go_wp2_with fail
    go_ret
    exact ⟨ret_bool HR.out.symm, rfl⟩
  by_cases r5 : c ≤ 122
  · have HR := Lib.hid (show nbC c = true from by unfold nbC ncB nsB; simp; omega)
    have f97 : (97 : Int) ≤ (c : Int) := by omega
    have f65 : (65 : Int) ≤ (c : Int) := by omega
    have f48 : (48 : Int) ≤ (c : Int) := by omega
    have f128 : ¬ (128 : Int) ≤ (c : Int) := by omega
    have t122 : (c : Int) ≤ 122 := by omega
    have t90 : ¬ (c : Int) ≤ 90 := by omega
    have t57 : ¬ (c : Int) ≤ 57 := by omega
    clear h95 h45 h0 r5
    go_enter Tryd.func40, Tryd.ntmps40
    go_wp2_with fail
    go_ret
    exact ⟨ret_bool HR.out.symm, rfl⟩
  by_cases r6 : c ≤ 127
  · have HR := Lib.hid (show nbC c = false from by unfold nbC ncB nsB; simp; omega)
    have f97 : (97 : Int) ≤ (c : Int) := by omega
    have f65 : (65 : Int) ≤ (c : Int) := by omega
    have f48 : (48 : Int) ≤ (c : Int) := by omega
    have f128 : ¬ (128 : Int) ≤ (c : Int) := by omega
    have t122 : ¬ (c : Int) ≤ 122 := by omega
    have t90 : ¬ (c : Int) ≤ 90 := by omega
    have t57 : ¬ (c : Int) ≤ 57 := by omega
    clear h95 h45 h0 r6
    go_enter Tryd.func40, Tryd.ntmps40
    go_wp2_with fail
    go_ret
    exact ⟨ret_bool HR.out.symm, rfl⟩
  have HR := Lib.hid (show nbC c = true from by unfold nbC ncB nsB; simp; omega)
  have f97 : (97 : Int) ≤ (c : Int) := by omega
  have f65 : (65 : Int) ≤ (c : Int) := by omega
  have f48 : (48 : Int) ≤ (c : Int) := by omega
  have f128 : (128 : Int) ≤ (c : Int) := by omega
  have t122 : ¬ (c : Int) ≤ 122 := by omega
  have t90 : ¬ (c : Int) ≤ 90 := by omega
  have t57 : ¬ (c : Int) ≤ 57 := by omega
  clear h95 h45 h0
  go_enter Tryd.func40, Tryd.ntmps40
  go_wp2_with fail
  go_ret
  exact ⟨ret_bool HR.out.symm, rfl⟩
theorem hx67 (c : Nat) (w : World) : Calls Tryd.prog 67 #[.int .u8 c] w fun e w' => e = .returned (.tuple #[.int .i64 (hxI c), .bool (hexI c)]) ∧ w = w' := by
  by_cases r0 : c ≤ 47
  · have HR := Lib.hid (show hexI (c : Int) = false from decide_eq_false (by omega))
    have HV := Lib.hid (show hxI (c : Int) = 0 from by unfold hxI; rw [if_neg (by omega), if_neg (by omega), if_neg (by omega)])
    have f97 : ¬ (97 : Int) ≤ (c : Int) := by omega
    have f65 : ¬ (65 : Int) ≤ (c : Int) := by omega
    have f48 : ¬ (48 : Int) ≤ (c : Int) := by omega
    have t102 : (c : Int) ≤ 102 := by omega
    have t70 : (c : Int) ≤ 70 := by omega
    have t57 : (c : Int) ≤ 57 := by omega
    go_enter Tryd.func67, Tryd.ntmps67
    go_wp2_with fail
    go_ret2
    refine ⟨?_, rfl⟩
    rw [HR.out, HV.out]
    rfl
  by_cases r1 : c ≤ 57
  · have HR := Lib.hid (show hexI (c : Int) = true from decide_eq_true (by omega))
    have HV := Lib.hid (show hxI (c : Int) = (c : Int) - 48 from by unfold hxI; rw [if_pos (by omega)])
    have f97 : ¬ (97 : Int) ≤ (c : Int) := by omega
    have f65 : ¬ (65 : Int) ≤ (c : Int) := by omega
    have f48 : (48 : Int) ≤ (c : Int) := by omega
    have t102 : (c : Int) ≤ 102 := by omega
    have t70 : (c : Int) ≤ 70 := by omega
    have t57 : (c : Int) ≤ 57 := by omega
    go_enter Tryd.func67, Tryd.ntmps67
    go_wp2_with fail
    go_ret2
    refine ⟨?_, rfl⟩
    rw [HR.out, HV.out]
    rfl
  by_cases r2 : c ≤ 64
  · have HR := Lib.hid (show hexI (c : Int) = false from decide_eq_false (by omega))
    have HV := Lib.hid (show hxI (c : Int) = 0 from by unfold hxI; rw [if_neg (by omega), if_neg (by omega), if_neg (by omega)])
    have f97 : ¬ (97 : Int) ≤ (c : Int) := by omega
    have f65 : ¬ (65 : Int) ≤ (c : Int) := by omega
    have f48 : (48 : Int) ≤ (c : Int) := by omega
    have t102 : (c : Int) ≤ 102 := by omega
    have t70 : (c : Int) ≤ 70 := by omega
    have t57 : ¬ (c : Int) ≤ 57 := by omega
    go_enter Tryd.func67, Tryd.ntmps67
    go_wp2_with fail
    go_ret2
    refine ⟨?_, rfl⟩
    rw [HR.out, HV.out]
    rfl
  by_cases r3 : c ≤ 70
  · have HR := Lib.hid (show hexI (c : Int) = true from decide_eq_true (by omega))
    have HV := Lib.hid (show hxI (c : Int) = (c : Int) - 55 from by unfold hxI; rw [if_neg (by omega), if_neg (by omega), if_pos (by omega)])
    have f97 : ¬ (97 : Int) ≤ (c : Int) := by omega
    have f65 : (65 : Int) ≤ (c : Int) := by omega
    have f48 : (48 : Int) ≤ (c : Int) := by omega
    have t102 : (c : Int) ≤ 102 := by omega
    have t70 : (c : Int) ≤ 70 := by omega
    have t57 : ¬ (c : Int) ≤ 57 := by omega
    go_enter Tryd.func67, Tryd.ntmps67
    go_wp2_with fail
    go_ret2
    refine ⟨?_, rfl⟩
    rw [HR.out, HV.out]
    first | rfl | (rw [← show (c : Int) - 65 + 10 = (c : Int) - 55 by omega]; rfl)
  by_cases r4 : c ≤ 96
  · have HR := Lib.hid (show hexI (c : Int) = false from decide_eq_false (by omega))
    have HV := Lib.hid (show hxI (c : Int) = 0 from by unfold hxI; rw [if_neg (by omega), if_neg (by omega), if_neg (by omega)])
    have f97 : ¬ (97 : Int) ≤ (c : Int) := by omega
    have f65 : (65 : Int) ≤ (c : Int) := by omega
    have f48 : (48 : Int) ≤ (c : Int) := by omega
    have t102 : (c : Int) ≤ 102 := by omega
    have t70 : ¬ (c : Int) ≤ 70 := by omega
    have t57 : ¬ (c : Int) ≤ 57 := by omega
    go_enter Tryd.func67, Tryd.ntmps67
    go_wp2_with fail
    go_ret2
    refine ⟨?_, rfl⟩
    rw [HR.out, HV.out]
    rfl
  by_cases r5 : c ≤ 102
  · have HR := Lib.hid (show hexI (c : Int) = true from decide_eq_true (by omega))
    have HV := Lib.hid (show hxI (c : Int) = (c : Int) - 87 from by unfold hxI; rw [if_neg (by omega), if_pos (by omega)])
    have f97 : (97 : Int) ≤ (c : Int) := by omega
    have f65 : (65 : Int) ≤ (c : Int) := by omega
    have f48 : (48 : Int) ≤ (c : Int) := by omega
    have t102 : (c : Int) ≤ 102 := by omega
    have t70 : ¬ (c : Int) ≤ 70 := by omega
    have t57 : ¬ (c : Int) ≤ 57 := by omega
    go_enter Tryd.func67, Tryd.ntmps67
    go_wp2_with fail
    go_ret2
    refine ⟨?_, rfl⟩
    rw [HR.out, HV.out]
    first | rfl | (rw [← show (c : Int) - 97 + 10 = (c : Int) - 87 by omega]; rfl)
  have HR := Lib.hid (show hexI (c : Int) = false from decide_eq_false (by omega))
  have HV := Lib.hid (show hxI (c : Int) = 0 from by unfold hxI; rw [if_neg (by omega), if_neg (by omega), if_neg (by omega)])
  have f97 : (97 : Int) ≤ (c : Int) := by omega
  have f65 : (65 : Int) ≤ (c : Int) := by omega
  have f48 : (48 : Int) ≤ (c : Int) := by omega
  have t102 : ¬ (c : Int) ≤ 102 := by omega
  have t70 : ¬ (c : Int) ≤ 70 := by omega
  have t57 : ¬ (c : Int) ≤ 57 := by omega
  go_enter Tryd.func67, Tryd.ntmps67
  go_wp2_with fail
  go_ret2
  refine ⟨?_, rfl⟩
  rw [HR.out, HV.out]
  rfl
theorem pu53 (c : Nat) (w : World) : Calls Tryd.prog 53 #[.int .u8 c] w fun e w' => e = .returned (.bool (plnC c)) ∧ w = w' := by
  have HW := Lib.hid (fun w => w52 c w)
  by_cases h41 : c = 41
  · subst h41
    have HR := Lib.hid (show plnC 41 = false by decide)
    go_enter Tryd.func53, Tryd.ntmps53
    go_wp2_with fail
    go_ret
    exact ⟨ret_bool HR.out.symm, rfl⟩
  by_cases h40 : c = 40
  · subst h40
    have HR := Lib.hid (show plnC 40 = false by decide)
    go_enter Tryd.func53, Tryd.ntmps53
    go_wp2_with fail
    go_ret
    exact ⟨ret_bool HR.out.symm, rfl⟩
  by_cases h34 : c = 34
  · subst h34
    have HR := Lib.hid (show plnC 34 = false by decide)
    go_enter Tryd.func53, Tryd.ntmps53
    go_wp2_with fail
    go_ret
    exact ⟨ret_bool HR.out.symm, rfl⟩
  by_cases h39 : c = 39
  · subst h39
    have HR := Lib.hid (show plnC 39 = false by decide)
    go_enter Tryd.func53, Tryd.ntmps53
    go_wp2_with fail
    go_ret
    exact ⟨ret_bool HR.out.symm, rfl⟩
  by_cases h92 : c = 92
  · subst h92
    have HR := Lib.hid (show plnC 92 = false by decide)
    go_enter Tryd.func53, Tryd.ntmps53
    go_wp2_with fail
    go_ret
    exact ⟨ret_bool HR.out.symm, rfl⟩
  have d41 : ((c : Int) == 41) = false := by rw [beq_eq_false_iff_ne]; omega
  have d40 : ((c : Int) == 40) = false := by rw [beq_eq_false_iff_ne]; omega
  have d34 : ((c : Int) == 34) = false := by rw [beq_eq_false_iff_ne]; omega
  have d39 : ((c : Int) == 39) = false := by rw [beq_eq_false_iff_ne]; omega
  have d92 : ((c : Int) == 92) = false := by rw [beq_eq_false_iff_ne]; omega
  cases hw : wsC c with
  | true =>
    rw [hw] at HW
    have HR := Lib.hid (show plnC c = false by unfold plnC; rw [hw]; simp)
    clear hw
    go_enter Tryd.func53, Tryd.ntmps53
    go_wp2_with fail
    refine (HW.out _).mono ?_
    rintro e w2 ⟨rfl, rfl⟩
    dsimp only
    go_wp2_with fail
    go_ret
    exact ⟨ret_bool HR.out.symm, rfl⟩
  | false =>
  rw [hw] at HW
  have HP : plnC c = !npI (c : Int) := by unfold plnC; rw [hw]; simp [h41, h40, h34, h39, h92]
  clear hw
  by_cases h11 : c = 11
  · subst h11
    have HR := Lib.hid (show plnC 11 = false by rw [HP]; decide)
    clear HP
    go_enter Tryd.func53, Tryd.ntmps53
    go_wp2_with fail
    refine (HW.out _).mono ?_
    rintro e w2 ⟨rfl, rfl⟩
    dsimp only
    go_wp2_with fail
    go_ret
    exact ⟨ret_bool HR.out.symm, rfl⟩
  have d11 : ((c : Int) == 11) = false := by rw [beq_eq_false_iff_ne]; omega
  by_cases h127 : c = 127
  · subst h127
    have HR := Lib.hid (show plnC 127 = false by rw [HP]; decide)
    clear HP
    go_enter Tryd.func53, Tryd.ntmps53
    go_wp2_with fail
    refine (HW.out _).mono ?_
    rintro e w2 ⟨rfl, rfl⟩
    dsimp only
    go_wp2_with fail
    go_ret
    exact ⟨ret_bool HR.out.symm, rfl⟩
  have d127 : ((c : Int) == 127) = false := by rw [beq_eq_false_iff_ne]; omega
  by_cases r0 : c ≤ 8
  · have HR := Lib.hid (show plnC c = false from by rw [HP]; unfold npI; simp; omega)
    have t8 : (c : Int) ≤ 8 := by omega
    have f14 : ¬ (14 : Int) ≤ (c : Int) := by omega
    have t31 : (c : Int) ≤ 31 := by omega
    clear HP h41 h40 h34 h39 h92 h11 h127
    go_enter Tryd.func53, Tryd.ntmps53
    go_wp2_with fail
    refine (HW.out _).mono ?_
    rintro e w2 ⟨rfl, rfl⟩
    dsimp only
    go_wp2_with fail
    go_ret
    exact ⟨ret_bool HR.out.symm, rfl⟩
  by_cases r1 : c ≤ 13
  · have HR := Lib.hid (show plnC c = true from by rw [HP]; unfold npI; simp; omega)
    have t8 : ¬ (c : Int) ≤ 8 := by omega
    have f14 : ¬ (14 : Int) ≤ (c : Int) := by omega
    have t31 : (c : Int) ≤ 31 := by omega
    clear HP h41 h40 h34 h39 h92 h11 h127
    go_enter Tryd.func53, Tryd.ntmps53
    go_wp2_with fail
    refine (HW.out _).mono ?_
    rintro e w2 ⟨rfl, rfl⟩
    dsimp only
    go_wp2_with fail
    go_ret
    exact ⟨ret_bool (by rw [HR.out]; simp; omega), rfl⟩
  by_cases r2 : c ≤ 31
  · have HR := Lib.hid (show plnC c = false from by rw [HP]; unfold npI; simp; omega)
    have t8 : ¬ (c : Int) ≤ 8 := by omega
    have f14 : (14 : Int) ≤ (c : Int) := by omega
    have t31 : (c : Int) ≤ 31 := by omega
    clear HP h41 h40 h34 h39 h92 h11 h127
    go_enter Tryd.func53, Tryd.ntmps53
    go_wp2_with fail
    refine (HW.out _).mono ?_
    rintro e w2 ⟨rfl, rfl⟩
    dsimp only
    go_wp2_with fail
    go_ret
    exact ⟨ret_bool HR.out.symm, rfl⟩
  have HR := Lib.hid (show plnC c = true from by rw [HP]; unfold npI; simp; omega)
  have t8 : ¬ (c : Int) ≤ 8 := by omega
  have f14 : (14 : Int) ≤ (c : Int) := by omega
  have t31 : ¬ (c : Int) ≤ 31 := by omega
  clear HP h41 h40 h34 h39 h92 h11 h127
  go_enter Tryd.func53, Tryd.ntmps53
  go_wp2_with fail
  refine (HW.out _).mono ?_
  rintro e w2 ⟨rfl, rfl⟩
  dsimp only
  go_wp2_with fail
  go_ret
  exact ⟨ret_bool (by rw [HR.out]; simp; omega), rfl⟩
end Go.Proofs.YtocciemgdikmjaaDoor
