/-
  wouldStartNumber: its contract.
-/
import Derived.Test.YtocciemgdikmjaaDoorH5
import Derived.Deep.QuietTactic
import Derived.Deep.Draws
import Derived.BigQuiet
namespace Go.Proofs.YtocciemgdikmjaaDoor
open Go.ChangeShapes Go.WideShapes Go.ChangeAt Go.RowKit
open Go.Lib (decodeN decode_at decodeGo)
set_option linter.unusedVariables false
set_option maxRecDepth 100000 in
set_option maxHeartbeats 4000000 in
theorem wsn_any (w : World) (g : Nat) (s : ByteArray) (nl : Int) (cur : Nat) (cp st ln : Int) (h : CL w g s nl cur cp st ln) (hc : cur ≤ s.size) (hs : s.size ≤ 1048576) :
    Calls Tryd.prog 79 #[.pointer (some ⟨g, 0, none⟩)] w fun e w' => e = .returned (.bool (wsnB s cur cp)) ∧ w = w' := by
  obtain ⟨l, c10, c32, c33, c35, c36, c37, fz⟩ := h
  by_cases h1 : 48 ≤ cp
  · by_cases h2 : cp ≤ 57
    · have HR := Lib.hid (show wsnB s cur cp = true by unfold wsnB digB; rw [if_pos (by simp; omega)])
      go_enter Tryd.func79, Tryd.ntmps79
      go_wp2_with fail
      go_ret
      exact ⟨ret_bool HR.out.symm, rfl⟩
    · have HR := Lib.hid (show wsnB s cur cp = false by unfold wsnB digB; rw [if_neg (by simp; omega), if_neg (by omega), if_neg (by omega)])
      have d1 : (cp == 46) = false := by simp; omega
      have d2 : (cp == 43) = false := by simp; omega
      have d3 : (cp == 45) = false := by simp; omega
      go_enter Tryd.func79, Tryd.ntmps79
      go_wp2_with fail
      go_ret
      exact ⟨ret_bool HR.out.symm, rfl⟩
  by_cases h46 : cp = 46
  · subst h46
    by_cases hcs : cur < s.size
    · have HR := Lib.hid (show wsnB s cur 46 = digB (s[cur]'hcs).toNat by unfold wsnB; rw [if_neg (by decide), if_pos rfl, dif_pos hcs])
      by_cases b1 : 48 ≤ (s[cur]'hcs).toNat
      · have HR2 := Lib.hid (show wsnB s cur 46 = decide (((s[cur]'hcs).toNat : Int) ≤ 57) by rw [HR.out]; unfold digB; simp; omega)
        go_enter Tryd.func79, Tryd.ntmps79
        go_wp2_with fail
        go_ret
        exact ⟨ret_bool HR2.out.symm, rfl⟩
      · have HR2 := Lib.hid (show wsnB s cur 46 = false by rw [HR.out]; unfold digB; simp; omega)
        go_enter Tryd.func79, Tryd.ntmps79
        go_wp2_with fail
        go_ret
        exact ⟨ret_bool HR2.out.symm, rfl⟩
    · have HR := Lib.hid (show wsnB s cur 46 = false by unfold wsnB; rw [if_neg (by decide), if_pos rfl, dif_neg hcs])
      go_enter Tryd.func79, Tryd.ntmps79
      go_wp2_with fail
      go_ret
      exact ⟨ret_bool HR.out.symm, rfl⟩
  have d46 : (cp == 46) = false := by simp [h46]
  by_cases hsg : cp = 43 ∨ cp = 45
  · by_cases hcs : cur < s.size
    · have HR := Lib.hid (show wsnB s cur cp = (if digB (s[cur]'hcs).toNat then true else if (s[cur]'hcs).toNat = 46 then (if h2 : cur + 1 < s.size then digB (s[cur + 1]'h2).toNat else false) else false) by
        unfold wsnB; rw [if_neg (by unfold digB; simp; omega), if_neg h46, if_pos hsg, dif_pos hcs])
      obtain ⟨b, hb⟩ : ∃ b, (s[cur]'hcs).toNat = b := ⟨_, rfl⟩
      by_cases b0 : 48 ≤ b ∧ b ≤ 57
      · have HR2 := Lib.hid (show wsnB s cur cp = true by rw [HR.out, hb]; unfold digB; rw [if_pos (by simp; omega)])
        have b1 : 48 ≤ (s[cur]'hcs).toNat := by omega
        have b2 : (s[cur]'hcs).toNat ≤ 57 := by omega
        clear HR hb b0 h46
        rcases hsg with rfl | rfl <;>
         (go_enter Tryd.func79, Tryd.ntmps79
          go_wp2_with fail
          go_ret
          exact ⟨ret_bool HR2.out.symm, rfl⟩)
      · by_cases b4 : b = 46
        · have d1 : (((s[cur]'hcs).toNat : Int) == 46) = true := by simp; omega
          have d2 : ¬ 48 ≤ (s[cur]'hcs).toNat := by omega
          by_cases hq : cur + 1 < s.size
          · have HR2 := Lib.hid (show wsnB s cur cp = digB (s[cur + 1]'hq).toNat by rw [HR.out, hb]; rw [if_neg (by unfold digB; simp; omega), if_pos b4, dif_pos hq])
            clear HR hb b0 h46 b4
            by_cases b1 : 48 ≤ (s[cur + 1]'hq).toNat
            · have HR3 := Lib.hid (show wsnB s cur cp = decide (((s[cur + 1]'hq).toNat : Int) ≤ 57) by rw [HR2.out]; unfold digB; simp; omega)
              clear HR2
              rcases hsg with rfl | rfl <;>
               (go_enter Tryd.func79, Tryd.ntmps79
                go_wp2_with fail
                go_ret
                exact ⟨ret_bool HR3.out.symm, rfl⟩)
            · have HR3 := Lib.hid (show wsnB s cur cp = false by rw [HR2.out]; unfold digB; simp; omega)
              clear HR2
              rcases hsg with rfl | rfl <;>
               (go_enter Tryd.func79, Tryd.ntmps79
                go_wp2_with fail
                go_ret
                exact ⟨ret_bool HR3.out.symm, rfl⟩)
          · have HR2 := Lib.hid (show wsnB s cur cp = false by rw [HR.out, hb]; rw [if_neg (by unfold digB; simp; omega), if_pos b4, dif_neg hq])
            have e1 : cur + 1 = s.size := by omega
            clear HR hb b0 h46 b4
            rcases hsg with rfl | rfl <;>
             (go_enter Tryd.func79, Tryd.ntmps79
              go_wp2_with fail
              go_ret
              exact ⟨ret_bool HR2.out.symm, rfl⟩)
        · have HR2 := Lib.hid (show wsnB s cur cp = false by rw [HR.out, hb]; rw [if_neg (by unfold digB; simp; omega), if_neg b4])
          have d1 : (((s[cur]'hcs).toNat : Int) == 46) = false := by simp; omega
          by_cases b1 : 48 ≤ (s[cur]'hcs).toNat
          · have b2 : ¬ (s[cur]'hcs).toNat ≤ 57 := by omega
            clear HR hb b0 h46 b4
            rcases hsg with rfl | rfl <;>
             (go_enter Tryd.func79, Tryd.ntmps79
              go_wp2_with fail
              go_ret
              exact ⟨ret_bool HR2.out.symm, rfl⟩)
          · clear HR hb b0 h46 b4
            rcases hsg with rfl | rfl <;>
             (go_enter Tryd.func79, Tryd.ntmps79
              go_wp2_with fail
              go_ret
              exact ⟨ret_bool HR2.out.symm, rfl⟩)
    · have HR := Lib.hid (show wsnB s cur cp = false by unfold wsnB; rw [if_neg (by unfold digB; simp; omega), if_neg h46, if_pos hsg, dif_neg hcs])
      clear h46
      rcases hsg with rfl | rfl <;>
       (go_enter Tryd.func79, Tryd.ntmps79
        go_wp2_with fail
        go_ret
        exact ⟨ret_bool HR.out.symm, rfl⟩)
  · have HR := Lib.hid (show wsnB s cur cp = false by unfold wsnB; rw [if_neg (by unfold digB; simp; omega), if_neg h46, if_neg hsg])
    have d2 : (cp == 43) = false := by simp; omega
    have d3 : (cp == 45) = false := by simp; omega
    clear h46 hsg
    go_enter Tryd.func79, Tryd.ntmps79
    go_wp2_with fail
    go_ret
    exact ⟨ret_bool HR.out.symm, rfl⟩
end Go.Proofs.YtocciemgdikmjaaDoor
