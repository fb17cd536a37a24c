/-
  The small functions of the laws on Tokenize.
-/
import Derived.Test.YtocciemgdikmjaaDoorC6
import Derived.Test.YtocciemgdikmjaaDoorL3
namespace Go.Proofs.YtocciemgdikmjaaDoor
open Go.ChangeShapes Go.WideShapes Go.ChangeAt Go.RowKit
open Go.Lib (decodeN decode_at decodeGo)
set_option linter.unusedVariables false
def sfC (b : Nat) : Bool := decide (¬ (b = 47 ∨ b = 92 ∨ b = 34 ∨ b = 39 ∨ b = 40))
def nuK (k : Nat) : Bool := decide (k = 30 ∨ k = 34 ∨ k = 26)
theorem dig_any (c : Nat) (w : World) : Calls Tryd.prog 16 #[.int .u8 c] w fun e w' => e = .returned (.bool (digC c)) ∧ w = w' := by
  by_cases h1 : 48 ≤ c <;> by_cases h2 : c ≤ 57 <;> (try omega)
  · have HR := Lib.hid (show digC c = true from decide_eq_true ⟨h1, h2⟩)
    have i1 : (48 : Int) ≤ (c : Int) := by omega
    have i2 : (c : Int) ≤ 57 := by omega
    go_enter Tryd.func16, Tryd.ntmps16
    go_wp2_with fail
    go_ret
    exact ⟨ret_bool HR.out.symm, rfl⟩
  · have HR := Lib.hid (show digC c = false from decide_eq_false (by omega))
    have i1 : (48 : Int) ≤ (c : Int) := by omega
    have i2 : ¬ (c : Int) ≤ 57 := by omega
    go_enter Tryd.func16, Tryd.ntmps16
    go_wp2_with fail
    go_ret
    exact ⟨ret_bool HR.out.symm, rfl⟩
  · have HR := Lib.hid (show digC c = false from decide_eq_false (by omega))
    have i1 : ¬ (48 : Int) ≤ (c : Int) := by omega
    go_enter Tryd.func16, Tryd.ntmps16
    go_wp2_with fail
    go_ret
    exact ⟨ret_bool HR.out.symm, rfl⟩
theorem gl_any (c : Nat) (w : World) : Calls Tryd.prog 13 #[.int .u8 c] w fun e w' => e = .returned (.bool (glC c)) ∧ w = w' := by
  by_cases h97 : c = 97
  · subst h97
    have HR := Lib.hid (show glC 97 = true by decide)
    go_enter Tryd.func13, Tryd.ntmps13
    go_wp2_with fail
    go_ret
    exact ⟨ret_bool HR.out.symm, rfl⟩
  by_cases h98 : c = 98
  · subst h98
    have HR := Lib.hid (show glC 98 = true by decide)
    go_enter Tryd.func13, Tryd.ntmps13
    go_wp2_with fail
    go_ret
    exact ⟨ret_bool HR.out.symm, rfl⟩
  have HR := Lib.hid (show glC c = false by unfold glC; simp; omega)
  have d97 : ((c : Int) == 97) = false := by rw [beq_eq_false_iff_ne]; omega
  have d98 : ((c : Int) == 98) = false := by rw [beq_eq_false_iff_ne]; omega
  clear h97 h98
  go_enter Tryd.func13, Tryd.ntmps13
  go_wp2_with fail
  go_ret
  exact ⟨ret_bool HR.out.symm, rfl⟩
theorem gn_any (c : Nat) (w : World) : Calls Tryd.prog 15 #[.int .u8 c] w fun e w' => e = .returned (.bool (gnC c)) ∧ w = w' := by
  by_cases h97 : c = 97
  · subst h97
    have HR := Lib.hid (show gnC 97 = true by decide)
    go_enter Tryd.func15, Tryd.ntmps15
    go_wp2_with fail
    go_ret
    exact ⟨ret_bool HR.out.symm, rfl⟩
  by_cases h98 : c = 98
  · subst h98
    have HR := Lib.hid (show gnC 98 = true by decide)
    go_enter Tryd.func15, Tryd.ntmps15
    go_wp2_with fail
    go_ret
    exact ⟨ret_bool HR.out.symm, rfl⟩
  by_cases h48 : c = 48
  · subst h48
    have HR := Lib.hid (show gnC 48 = true by decide)
    go_enter Tryd.func15, Tryd.ntmps15
    go_wp2_with fail
    go_ret
    exact ⟨ret_bool HR.out.symm, rfl⟩
  by_cases h49 : c = 49
  · subst h49
    have HR := Lib.hid (show gnC 49 = true by decide)
    go_enter Tryd.func15, Tryd.ntmps15
    go_wp2_with fail
    go_ret
    exact ⟨ret_bool HR.out.symm, rfl⟩
  have HR := Lib.hid (show gnC c = false by unfold gnC; simp; omega)
  have d97 : ((c : Int) == 97) = false := by rw [beq_eq_false_iff_ne]; omega
  have d98 : ((c : Int) == 98) = false := by rw [beq_eq_false_iff_ne]; omega
  have d48 : ((c : Int) == 48) = false := by rw [beq_eq_false_iff_ne]; omega
  have d49 : ((c : Int) == 49) = false := by rw [beq_eq_false_iff_ne]; omega
  clear h97 h98 h48 h49
  go_enter Tryd.func15, Tryd.ntmps15
  go_wp2_with fail
  go_ret
  exact ⟨ret_bool HR.out.symm, rfl⟩
theorem gs_any (c : Nat) (w : World) : Calls Tryd.prog 11 #[.int .u8 c] w fun e w' => e = .returned (.bool (grB c)) ∧ w = w' := by
  by_cases h97 : c = 97
  · subst h97
    have HR := Lib.hid (show grB 97 = true by decide)
    go_enter Tryd.func11, Tryd.ntmps11
    go_wp2_with fail
    go_ret
    exact ⟨ret_bool HR.out.symm, rfl⟩
  by_cases h98 : c = 98
  · subst h98
    have HR := Lib.hid (show grB 98 = true by decide)
    go_enter Tryd.func11, Tryd.ntmps11
    go_wp2_with fail
    go_ret
    exact ⟨ret_bool HR.out.symm, rfl⟩
  by_cases h48 : c = 48
  · subst h48
    have HR := Lib.hid (show grB 48 = true by decide)
    go_enter Tryd.func11, Tryd.ntmps11
    go_wp2_with fail
    go_ret
    exact ⟨ret_bool HR.out.symm, rfl⟩
  by_cases h49 : c = 49
  · subst h49
    have HR := Lib.hid (show grB 49 = true by decide)
    go_enter Tryd.func11, Tryd.ntmps11
    go_wp2_with fail
    go_ret
    exact ⟨ret_bool HR.out.symm, rfl⟩
  by_cases h32 : c = 32
  · subst h32
    have HR := Lib.hid (show grB 32 = true by decide)
    go_enter Tryd.func11, Tryd.ntmps11
    go_wp2_with fail
    go_ret
    exact ⟨ret_bool HR.out.symm, rfl⟩
  by_cases h10 : c = 10
  · subst h10
    have HR := Lib.hid (show grB 10 = true by decide)
    go_enter Tryd.func11, Tryd.ntmps11
    go_wp2_with fail
    go_ret
    exact ⟨ret_bool HR.out.symm, rfl⟩
  by_cases h123 : c = 123
  · subst h123
    have HR := Lib.hid (show grB 123 = true by decide)
    go_enter Tryd.func11, Tryd.ntmps11
    go_wp2_with fail
    go_ret
    exact ⟨ret_bool HR.out.symm, rfl⟩
  by_cases h125 : c = 125
  · subst h125
    have HR := Lib.hid (show grB 125 = true by decide)
    go_enter Tryd.func11, Tryd.ntmps11
    go_wp2_with fail
    go_ret
    exact ⟨ret_bool HR.out.symm, rfl⟩
  by_cases h58 : c = 58
  · subst h58
    have HR := Lib.hid (show grB 58 = true by decide)
    go_enter Tryd.func11, Tryd.ntmps11
    go_wp2_with fail
    go_ret
    exact ⟨ret_bool HR.out.symm, rfl⟩
  by_cases h59 : c = 59
  · subst h59
    have HR := Lib.hid (show grB 59 = true by decide)
    go_enter Tryd.func11, Tryd.ntmps11
    go_wp2_with fail
    go_ret
    exact ⟨ret_bool HR.out.symm, rfl⟩
  by_cases h44 : c = 44
  · subst h44
    have HR := Lib.hid (show grB 44 = true by decide)
    go_enter Tryd.func11, Tryd.ntmps11
    go_wp2_with fail
    go_ret
    exact ⟨ret_bool HR.out.symm, rfl⟩
  by_cases h37 : c = 37
  · subst h37
    have HR := Lib.hid (show grB 37 = true by decide)
    go_enter Tryd.func11, Tryd.ntmps11
    go_wp2_with fail
    go_ret
    exact ⟨ret_bool HR.out.symm, rfl⟩
  by_cases h46 : c = 46
  · subst h46
    have HR := Lib.hid (show grB 46 = true by decide)
    go_enter Tryd.func11, Tryd.ntmps11
    go_wp2_with fail
    go_ret
    exact ⟨ret_bool HR.out.symm, rfl⟩
  by_cases h35 : c = 35
  · subst h35
    have HR := Lib.hid (show grB 35 = true by decide)
    go_enter Tryd.func11, Tryd.ntmps11
    go_wp2_with fail
    go_ret
    exact ⟨ret_bool HR.out.symm, rfl⟩
  by_cases h64 : c = 64
  · subst h64
    have HR := Lib.hid (show grB 64 = true by decide)
    go_enter Tryd.func11, Tryd.ntmps11
    go_wp2_with fail
    go_ret
    exact ⟨ret_bool HR.out.symm, rfl⟩
  have HR := Lib.hid (show grB c = false by unfold grB; simp; omega)
  have d97 : ((c : Int) == 97) = false := by rw [beq_eq_false_iff_ne]; omega
  have d98 : ((c : Int) == 98) = false := by rw [beq_eq_false_iff_ne]; omega
  have d48 : ((c : Int) == 48) = false := by rw [beq_eq_false_iff_ne]; omega
  have d49 : ((c : Int) == 49) = false := by rw [beq_eq_false_iff_ne]; omega
  have d32 : ((c : Int) == 32) = false := by rw [beq_eq_false_iff_ne]; omega
  have d10 : ((c : Int) == 10) = false := by rw [beq_eq_false_iff_ne]; omega
  have d123 : ((c : Int) == 123) = false := by rw [beq_eq_false_iff_ne]; omega
  have d125 : ((c : Int) == 125) = false := by rw [beq_eq_false_iff_ne]; omega
  have d58 : ((c : Int) == 58) = false := by rw [beq_eq_false_iff_ne]; omega
  have d59 : ((c : Int) == 59) = false := by rw [beq_eq_false_iff_ne]; omega
  have d44 : ((c : Int) == 44) = false := by rw [beq_eq_false_iff_ne]; omega
  have d37 : ((c : Int) == 37) = false := by rw [beq_eq_false_iff_ne]; omega
  have d46 : ((c : Int) == 46) = false := by rw [beq_eq_false_iff_ne]; omega
  have d35 : ((c : Int) == 35) = false := by rw [beq_eq_false_iff_ne]; omega
  have d64 : ((c : Int) == 64) = false := by rw [beq_eq_false_iff_ne]; omega
  clear h97 h98 h48 h49 h32 h10 h123 h125 h58 h59 h44 h37 h46 h35 h64
  go_enter Tryd.func11, Tryd.ntmps11
  go_wp2_with fail
  go_ret
  exact ⟨ret_bool HR.out.symm, rfl⟩
theorem sf_any (c : Nat) (w : World) : Calls Tryd.prog 24 #[.int .u8 c] w fun e w' => e = .returned (.bool (sfC c)) ∧ w = w' := by
  by_cases h47 : c = 47
  · subst h47
    have HR := Lib.hid (show sfC 47 = false by decide)
    go_enter Tryd.func24, Tryd.ntmps24
    go_wp2_with fail
    go_ret
    exact ⟨ret_bool HR.out.symm, rfl⟩
  by_cases h92 : c = 92
  · subst h92
    have HR := Lib.hid (show sfC 92 = false by decide)
    go_enter Tryd.func24, Tryd.ntmps24
    go_wp2_with fail
    go_ret
    exact ⟨ret_bool HR.out.symm, rfl⟩
  by_cases h34 : c = 34
  · subst h34
    have HR := Lib.hid (show sfC 34 = false by decide)
    go_enter Tryd.func24, Tryd.ntmps24
    go_wp2_with fail
    go_ret
    exact ⟨ret_bool HR.out.symm, rfl⟩
  by_cases h39 : c = 39
  · subst h39
    have HR := Lib.hid (show sfC 39 = false by decide)
    go_enter Tryd.func24, Tryd.ntmps24
    go_wp2_with fail
    go_ret
    exact ⟨ret_bool HR.out.symm, rfl⟩
  by_cases h40 : c = 40
  · subst h40
    have HR := Lib.hid (show sfC 40 = false by decide)
    go_enter Tryd.func24, Tryd.ntmps24
    go_wp2_with fail
    go_ret
    exact ⟨ret_bool HR.out.symm, rfl⟩
  have HR := Lib.hid (show sfC c = true by unfold sfC; simp; omega)
  have d47 : ((c : Int) == 47) = false := by rw [beq_eq_false_iff_ne]; omega
  have d92 : ((c : Int) == 92) = false := by rw [beq_eq_false_iff_ne]; omega
  have d34 : ((c : Int) == 34) = false := by rw [beq_eq_false_iff_ne]; omega
  have d39 : ((c : Int) == 39) = false := by rw [beq_eq_false_iff_ne]; omega
  have d40 : ((c : Int) == 40) = false := by rw [beq_eq_false_iff_ne]; omega
  clear h47 h92 h34 h39 h40
  go_enter Tryd.func24, Tryd.ntmps24
  go_wp2_with fail
  go_ret
  exact ⟨ret_bool HR.out.symm, rfl⟩
theorem nu_any (c : Nat) (w : World) : Calls Tryd.prog 25 #[.int .u8 c] w fun e w' => e = .returned (.bool (nuK c)) ∧ w = w' := by
  by_cases h30 : c = 30
  · subst h30
    have HR := Lib.hid (show nuK 30 = true by decide)
    go_enter Tryd.func25, Tryd.ntmps25
    go_wp2_with fail
    go_ret
    exact ⟨ret_bool HR.out.symm, rfl⟩
  by_cases h34 : c = 34
  · subst h34
    have HR := Lib.hid (show nuK 34 = true by decide)
    go_enter Tryd.func25, Tryd.ntmps25
    go_wp2_with fail
    go_ret
    exact ⟨ret_bool HR.out.symm, rfl⟩
  by_cases h26 : c = 26
  · subst h26
    have HR := Lib.hid (show nuK 26 = true by decide)
    go_enter Tryd.func25, Tryd.ntmps25
    go_wp2_with fail
    go_ret
    exact ⟨ret_bool HR.out.symm, rfl⟩
  have HR := Lib.hid (show nuK c = false by unfold nuK; simp; omega)
  have d30 : ((c : Int) == 30) = false := by rw [beq_eq_false_iff_ne]; omega
  have d34 : ((c : Int) == 34) = false := by rw [beq_eq_false_iff_ne]; omega
  have d26 : ((c : Int) == 26) = false := by rw [beq_eq_false_iff_ne]; omega
  clear h30 h34 h26
  go_enter Tryd.func25, Tryd.ntmps25
  go_wp2_with fail
  go_ret
  exact ⟨ret_bool HR.out.symm, rfl⟩
set_option maxRecDepth 100000 in
theorem ne_any (s : ByteArray) (p : Nat) (hs : s.size ≤ 1048576) (hp : p ≤ s.size) (w : World) : Calls Tryd.prog 14 #[.string s, .int .i64 p] w fun e w' => e = .returned (.int .i64 (run gnC s p : Nat)) ∧ w = w' := by
  have HL := Lib.hid (fun c w => gn_any c w)
  go_enter Tryd.func14, Tryd.ntmps14
  go_wp2_with fail
  go_loopw [1] (fun a w' => ∃ j : Nat, a = .int .i64 j ∧ w = w' ∧ j ≤ s.size ∧ Hid (run gnC s p = run gnC s j)) (fun a w' => s.size - (intOf a).toNat)
  case atStart => exact ⟨p, rfl, rfl, hp, Lib.hid rfl⟩
  case round =>
    obtain ⟨j, rfl, rfl, hj, HR⟩ := hrel
    by_cases hlt : j < s.size
    case neg =>
      have HE := Lib.hid (show run gnC s p = j by rw [HR.out]; exact run_stop _ s j (fun h => absurd h hlt))
      go_wp2_with fail
      go_ret
      exact ⟨by rw [HE.out]; rfl, rfl⟩
    obtain ⟨b, hb⟩ : ∃ b, (s[j]'hlt).toNat = b := ⟨_, rfl⟩
    have g0 : ((s[j]'hlt).toNat : Int) = (b : Int) := by omega
    have HY := Lib.hid (show byt s j = b by rw [← byt_at s j hlt]; exact hb)
    clear hb
    go_wp2_with fail
    refine (HL.out b _).mono ?_
    rintro e w2 ⟨rfl, rfl⟩
    dsimp only
    cases hl : gnC b with
    | true =>
      have HS := Lib.hid (show run gnC s p = run gnC s (j + 1) by rw [HR.out]; exact run_go _ s j hlt (by rw [HY.out]; exact hl))
      clear hl
      go_wp2_with fail
      go_roundw
      case rel => exact ⟨j + 1, by simp, by trivial, by omega, HS⟩
      case measure => simp only [intOf]; omega
    | false =>
      have HE := Lib.hid (show run gnC s p = j by rw [HR.out]; exact run_stop _ s j (fun _ => by rw [HY.out]; exact hl))
      clear hl
      go_wp2_with fail
      go_ret
      exact ⟨by rw [HE.out]; rfl, rfl⟩
set_option maxRecDepth 100000 in
set_option maxHeartbeats 2000000 in
theorem cn_any (s : ByteArray) (hs : s.size ≤ 1048576) (w : World) : Calls Tryd.prog 17 #[.string s] w fun e w' => e = .returned (.int .i64 (cnt s s.size : Nat)) ∧ w = w' := by
  go_enter Tryd.func17, Tryd.ntmps17
  go_wp2_with fail
  go_loopw [3, 4] (fun n i w' => ∃ j m : Nat, i = .int .i64 j ∧ n = .int .i64 m ∧ w = w' ∧ j ≤ s.size ∧ m ≤ j ∧ Hid (m = cnt s j)) (fun n i w' => s.size - (intOf i).toNat)
  case atStart => exact ⟨0, 0, rfl, rfl, rfl, by omega, Nat.le_refl _, Lib.hid rfl⟩
  case round =>
    obtain ⟨j, m, rfl, rfl, rfl, hj, hm, HM⟩ := hrel
    by_cases hlt : j < s.size
    · by_cases h10 : (s[j]'hlt).toNat = 10
      · have d1 : (((s[j]'hlt).toNat : Int) == 10) = true := by rw [beq_iff_eq]; omega
        have HE := Lib.hid (show m + 1 = cnt s (j + 1) by rw [cnt_succ, if_pos ⟨hlt, by rw [← byt_at s j hlt]; exact h10⟩, HM.out])
        clear h10
        go_wp2_with fail
        go_roundw
        case rel => exact ⟨j + 1, m + 1, by simp, by simp, by trivial, by omega, by omega, HE⟩
        case measure => simp only [intOf]; omega
      · have d1 : (((s[j]'hlt).toNat : Int) == 10) = false := by rw [beq_eq_false_iff_ne]; omega
        have HE := Lib.hid (show m = cnt s (j + 1) by rw [cnt_succ, if_neg (fun hh => h10 (by rw [byt_at]; exact hh.2)), HM.out]; rfl)
        clear h10
        go_wp2_with fail
        go_roundw
        case rel => exact ⟨j + 1, m, by simp, by simp, by trivial, by omega, by omega, HE⟩
        case measure => simp only [intOf]; omega
    · obtain rfl : j = s.size := by omega
      have HE := Lib.hid (show ((m : Nat) : Int) = ((cnt s s.size : Nat) : Int) by rw [HM.out])
      go_wp2_with fail
      go_ret
      exact ⟨by rw [← HE.out]; rfl, rfl⟩
set_option maxRecDepth 100000 in
set_option maxHeartbeats 2000000 in
theorem sn_any (s : ByteArray) (p : Nat) (hs : s.size ≤ 1048576) (hp : p < s.size) (w : World) : Calls Tryd.prog 26 #[.string s, .int .i64 p] w fun e w' => e = .returned (.bool (snB s p)) ∧ w = w' := by
  have HD := Lib.hid (fun c w => dig_any c w)
  obtain ⟨b, hb⟩ : ∃ b, (s[p]'hp).toNat = b := ⟨_, rfl⟩
  have g0 : ((s[p]'hp).toNat : Int) = (b : Int) := by omega
  have hy : byt s p = b := by rw [← byt_at s p hp]; exact hb
  clear hb
  obtain ⟨c, hc⟩ : ∃ c, byt s (p + 1) = c := ⟨_, rfl⟩
  obtain ⟨d, hd⟩ : ∃ d, byt s (p + 2) = d := ⟨_, rfl⟩
  have HM := Lib.hid (show snB s p = (digC b || (decide (b = 46) && digC c) || (decide (b = 43 ∨ b = 45) && (digC c || (decide (c = 46) && digC d)))) by unfold snB; rw [hy, hc, hd])
  have HE1 := Lib.hid (show ¬ p + 1 < s.size → c = 0 from fun h => by rw [← hc]; exact byt_end s _ (by omega))
  have HE2 := Lib.hid (show ¬ p + 2 < s.size → d = 0 from fun h => by rw [← hd]; exact byt_end s _ (by omega))
  have HC := Lib.hid (show ∀ h : p + 1 < s.size, ((s[p + 1]'h).toNat : Int) = (c : Int) from fun h => by rw [← hc, ← byt_at s (p + 1) h])
  have HD2 := Lib.hid (show ∀ h : p + 2 < s.size, ((s[p + 2]'h).toNat : Int) = (d : Int) from fun h => by rw [← hd, ← byt_at s (p + 2) h])
  clear hy hc hd
  go_enter Tryd.func26, Tryd.ntmps26
  go_wp2_with fail
  refine (HD.out b _).mono ?_
  rintro e w2 ⟨rfl, rfl⟩
  dsimp only
  cases hl : digC b with
  | true =>
    rw [hl] at HM
    have HR := Lib.hid (show snB s p = true by rw [HM.out]; simp)
    clear hl
    go_wp2_with fail
    go_ret
    exact ⟨ret_bool HR.out.symm, rfl⟩
  | false =>
  rw [hl] at HM
  clear hl
  by_cases h46 : b = 46
  · subst h46
    have HR := Lib.hid (show snB s p = digC c by rw [HM.out]; simp)
    by_cases hq : p + 1 < s.size
    · have g1 := HC.out hq
      go_wp2_with fail
      refine (HD.out c _).mono ?_
      rintro e w2 ⟨rfl, rfl⟩
      dsimp only
      go_wp2_with fail
      go_ret
      exact ⟨ret_bool HR.out.symm, rfl⟩
    · have HR2 := Lib.hid (show snB s p = false by rw [HR.out, HE1.out hq]; simp [digC])
      go_wp2_with fail
      go_ret
      exact ⟨ret_bool HR2.out.symm, rfl⟩
  have d46 : ((b : Int) == 46) = false := by rw [beq_eq_false_iff_ne]; omega
  by_cases h43 : b = 43 ∨ b = 45
  case neg =>
    have HR := Lib.hid (show snB s p = false by rw [HM.out]; simp [h46, h43])
    have d43 : ((b : Int) == 43) = false := by rw [beq_eq_false_iff_ne]; omega
    have d45 : ((b : Int) == 45) = false := by rw [beq_eq_false_iff_ne]; omega
    clear h46 h43
    go_wp2_with fail
    go_ret
    exact ⟨ret_bool HR.out.symm, rfl⟩
  have HR := Lib.hid (show snB s p = (digC c || (decide (c = 46) && digC d)) by rw [HM.out]; simp [h46, h43])
  clear h46 HM
  rcases h43 with rfl | rfl
  all_goals
    clear d46
    by_cases hq : p + 1 < s.size
    case neg =>
      have HR2 := Lib.hid (show snB s p = false by rw [HR.out, HE1.out hq]; simp [digC])
      go_wp2_with fail
      go_ret
      exact ⟨ret_bool HR2.out.symm, rfl⟩
    have g1 := HC.out hq
    go_wp2_with fail
    refine (HD.out c _).mono ?_
    rintro e w2 ⟨rfl, rfl⟩
    dsimp only
    cases hl : digC c with
    | true =>
      have HR2 := Lib.hid (show snB s p = true by rw [HR.out, hl]; simp)
      clear hl
      go_wp2_with fail
      go_ret
      exact ⟨ret_bool HR2.out.symm, rfl⟩
    | false =>
      rw [hl] at HR
      clear hl
      by_cases hq2 : p + 2 < s.size
      case neg =>
        have HR2 := Lib.hid (show snB s p = false by rw [HR.out, HE2.out hq2]; simp [digC])
        go_wp2_with fail
        go_ret
        exact ⟨ret_bool HR2.out.symm, rfl⟩
      have g2 := HD2.out hq2
      by_cases hc46 : c = 46
      · subst hc46
        have HR2 := Lib.hid (show snB s p = digC d by rw [HR.out]; simp)
        go_wp2_with fail
        refine (HD.out d _).mono ?_
        rintro e w2 ⟨rfl, rfl⟩
        dsimp only
        go_wp2_with fail
        go_ret
        exact ⟨ret_bool HR2.out.symm, rfl⟩
      · have HR2 := Lib.hid (show snB s p = false by rw [HR.out]; simp [hc46])
        have dc : ((c : Int) == 46) = false := by rw [beq_eq_false_iff_ne]; omega
        clear hc46
        go_wp2_with fail
        go_ret
        exact ⟨ret_bool HR2.out.symm, rfl⟩
theorem zb3_any (s : ByteArray) (b : Bool) (w0 : s.size ≤ maxLen) (w : World) : Calls Tryd.prog 10 #[.string s, .bool b] w fun e w' => e = .returned (.bool (decide (s.size ≤ 1048576))) ∧ w = w' := by
  by_cases h : s.size ≤ 1048576
  · have HR := Lib.hid (show decide (s.size ≤ 1048576) = true from decide_eq_true h)
    go_enter Tryd.func10, Tryd.ntmps10
    go_wp2_with fail
    go_ret
    exact ⟨ret_bool HR.out.symm, rfl⟩
  · have HR := Lib.hid (show decide (s.size ≤ 1048576) = false from decide_eq_false h)
    go_enter Tryd.func10, Tryd.ntmps10
    go_wp2_with fail
    go_ret
    exact ⟨ret_bool HR.out.symm, rfl⟩
theorem zb5_any (s : ByteArray) (w0 : s.size ≤ maxLen) (w : World) : Calls Tryd.prog 23 #[.string s] w fun e w' => e = .returned (.bool (decide (s.size ≤ 1048576))) ∧ w = w' := by
  by_cases h : s.size ≤ 1048576
  · have HR := Lib.hid (show decide (s.size ≤ 1048576) = true from decide_eq_true h)
    go_enter Tryd.func23, Tryd.ntmps23
    go_wp2_with fail
    go_ret
    exact ⟨ret_bool HR.out.symm, rfl⟩
  · have HR := Lib.hid (show decide (s.size ≤ 1048576) = false from decide_eq_false h)
    go_enter Tryd.func23, Tryd.ntmps23
    go_wp2_with fail
    go_ret
    exact ⟨ret_bool HR.out.symm, rfl⟩
end Go.Proofs.YtocciemgdikmjaaDoor
