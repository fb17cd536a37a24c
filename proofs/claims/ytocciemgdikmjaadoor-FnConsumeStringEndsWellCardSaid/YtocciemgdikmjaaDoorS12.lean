/-
  The walk of FnConsumeStringEndsWell.
-/
import Derived.Test.YtocciemgdikmjaaDoorS11
namespace Go.Proofs.YtocciemgdikmjaaDoor
open Go.ChangeShapes Go.WideShapes Go.ChangeAt Go.RowKit
set_option linter.unusedVariables false
theorem retb {a b : Bool} (h : a = b) : Ending.returned (.bool a) = .returned (.bool b) := by rw [h]
theorem zb27 (s : ByteArray) (st : Int) (w0 : s.size ≤ maxLen) (w : World) : Calls Tryd.prog 27 #[.string s, .int .i64 st] w fun e w' => e = .returned (.bool (decide (s.size ≤ 1048576))) ∧ w = w' := by
  by_cases h : s.size ≤ 1048576
  · have HR := Lib.hid (show decide (s.size ≤ 1048576) = true from decide_eq_true h)
    go_enter Tryd.func27, Tryd.ntmps27
    go_wp2_with fail
    go_ret
    exact ⟨retb HR.out.symm, rfl⟩
  · have HR := Lib.hid (show decide (s.size ≤ 1048576) = false from decide_eq_false h)
    have i1 : (1048576 : Int) < (s.size : Int) := by omega
    go_enter Tryd.func27, Tryd.ntmps27
    go_wp2_with fail
    go_ret
    exact ⟨retb HR.out.symm, rfl⟩
def nlC (b : Nat) : Bool := decide (b = 10 ∨ b = 13 ∨ b = 12)
theorem nl29 (c : Nat) (w : World) : Calls Tryd.prog 29 #[.int .u8 c] w fun e w' => e = .returned (.bool (nlC c)) ∧ w = w' := by
  by_cases h : c = 10 ∨ c = 13 ∨ c = 12
  · have e : nlC c = true := by simp [nlC, h]
    rw [e]
    rcases h with rfl | rfl | rfl
    all_goals
      go_enter Tryd.func29, Tryd.ntmps29
      go_wp2_with fail
      go_ret
      exact ⟨rfl, rfl⟩
  · have e : nlC c = false := by simp [nlC, h]
    have e1 : ((c : Int) == 10) = false := by rw [beq_eq_false_iff_ne]; omega
    have e2 : ((c : Int) == 13) = false := by rw [beq_eq_false_iff_ne]; omega
    have e3 : ((c : Int) == 12) = false := by rw [beq_eq_false_iff_ne]; omega
    rw [e]
    clear h e
    go_enter Tryd.func29, Tryd.ntmps29
    go_wp2_with fail
    go_ret
    exact ⟨rfl, rfl⟩
set_option maxRecDepth 100000 in
set_option maxHeartbeats 4000000 in
theorem ex28 (w : World) (s : ByteArray) (st : Nat) (hT : Lib.Utf8Tabs 0 1 w) (hst : st < s.size) (hs : s.size ≤ 1048576) (hq : byt s st = 34 ∨ byt s st = 39) :
    Calls Tryd.prog 28 #[.string s, .int .i64 st] w fun e w' => ∃ (k : Int) (p : Nat), e = .returned (.tuple #[.int .u8 k, .int .i32 p]) ∧ Below w.heap.size w w' ∧
      ((k = 36 ∧ st + 2 ≤ p ∧ p ≤ s.size ∧ byt s (p - 1) = byt s st) ∨ (k = 2 ∧ st < p ∧ p ≤ s.size ∧ (p = s.size ∨ byt s p = 10 ∨ byt s p = 13 ∨ byt s p = 12))) := by
  have HT := Lib.hid hT; have HQ := Lib.hid hq
  have HM := Lib.hid (mk56 w s st hT (by omega) hs)
  clear hT hq
  go_enter Tryd.func28, Tryd.ntmps28
  go_wp2_with fail
  refine HM.out.mono ?_
  rintro e w1 ⟨g, rfl, K, X, E, M, an, tk, lg, lc, lo, lX, lM, be⟩
  have HL : Hid (Ls w w1 g K X E M s st st) := Lib.hid ⟨an, tk, lg, lc, be, lo⟩
  have HX := Lib.hid (And.intro lX lM)
  have hlt := HL.out.lt
  clear an tk lg lc lo lX lM be HM
  dsimp only
  go_wp2_with fail
  refine (cs57 w w1 g K X E M s st HL.out HX.out.1 HX.out.2 HT.out hst hs HQ.out).mono ?_
  rintro e w2 ⟨k, p, rfl, c36, c37, be2, hk⟩
  have hp : st < p ∧ p ≤ s.size := by omega
  have HK := Lib.hid hk; have HB := Lib.hid be2
  obtain ⟨ln, hln⟩ : ∃ ln : Nat, st + ln = p := ⟨p - st, by omega⟩
  have hln2 : (p : Int) - (st : Int) = (ln : Int) := by omega
  have hpl : (st : Int) + (ln : Int) = (p : Nat) := by omega
  rw [hln2] at c37
  clear hk be2 hln2
  dsimp only
  go_wp2_with fail
  refine (en58 _ _ (by omega) (by omega) (by omega) _).mono ?_
  rintro e w3 ⟨rfl, hb3⟩
  rw [hpl]
  have HB3 := Lib.hid (HB.out.trans (hb3.mono HB.out.size))
  clear hb3
  dsimp only
  go_wp2_with fail
  go_ret2
  exact ⟨k, p, rfl, HB3.out, HK.out⟩
set_option maxRecDepth 100000 in
set_option maxHeartbeats 8000000 in
theorem FnConsumeStringEndsWell_walk (a0 : ByteArray) (a1 : Int) (w0 : a0.size ≤ maxLen) (w1 : (Lit.int .i64 a1).wf = true) (w : World) (hT : Lib.Utf8Tabs 0 1 w) :
    Calls Tryd.prog 6 #[.string a0, .int .i64 a1] w fun e w' => e = .returned (.bool true) ∧ Below w.heap.size w w' := by
  have HT := Lib.hid hT
  have HZ := Lib.hid (zb27 a0 a1 w0 w)
  clear hT
  go_enter Tryd.func6, Tryd.ntmps6
  go_wp2_with fail
  refine (HZ.out).mono ?_
  rintro e w1 ⟨rfl, rfl⟩
  by_cases hs : a0.size ≤ 1048576
  case neg =>
    rw [decide_eq_false hs]
    clear hs
    dsimp only
    go_wp2_with fail
    go_ret
    exact ⟨rfl, Below.refl _ _⟩
  rw [decide_eq_true hs]
  dsimp only
  by_cases h0 : 0 ≤ a1
  case neg =>
    go_wp2_with fail
    go_ret
    exact ⟨rfl, Below.refl _ _⟩
  obtain ⟨st, rfl⟩ : ∃ st : Nat, a1 = st := ⟨a1.toNat, by omega⟩
  by_cases hst : st < a0.size
  case neg =>
    have h1 : ¬ (st : Int) < (a0.size : Int) := by omega
    go_wp2_with fail
    go_ret
    exact ⟨rfl, Below.refl _ _⟩
  obtain ⟨Q, hQ⟩ : ∃ Q, (a0[st]'hst).toNat = Q := ⟨_, rfl⟩
  have hQb : byt a0 st = Q := by rw [← byt_at a0 st hst]; exact hQ
  by_cases hq : Q = 34 ∨ Q = 39
  case neg =>
    have n1 : ((Q : Int) != 34) = true := by simp; omega
    have n2 : ((Q : Int) != 39) = true := by simp; omega
    clear hq
    go_wp2_with fail
    go_ret
    exact ⟨rfl, Below.refl _ _⟩
  have HE := Lib.hid (ex28 w a0 st HT.out hst hs (by rw [hQb]; exact hq))
  rcases hq with rfl | rfl
  all_goals
    go_wp2_with fail
    refine HE.out.mono ?_
    rintro e w2 ⟨k, p, rfl, hb, hk⟩
    have HB := Lib.hid hb
    clear hb
    rcases hk with ⟨rfl, h1, h2, h3⟩ | ⟨rfl, h1, h2, h3⟩
    · obtain ⟨P, hP⟩ : ∃ P : Nat, P + 1 = p := ⟨p - 1, by omega⟩
      have hP' : (p : Int) - 1 = (P : Int) := by omega
      have hPs : P < a0.size := by omega
      have hv := (byt_at a0 P hPs).trans ((congrArg (byt a0) (show P = p - 1 by omega)).trans (h3.trans hQb))
      have i1 : (st : Int) + 2 ≤ (p : Int) := by omega
      have i2 : ¬ (p : Int) ≤ (st : Int) := by omega
      have i3 : (p : Int) ≤ (a0.size : Int) := by omega
      have i4 : (p : Int) ≤ 1048576 := by omega
      clear h1 h3 hP hQb
      dsimp only
      go_wp2_with fail
      go_region
      all_goals
        go_wp2_with fail
        go_ret
        exact ⟨rfl, by first | exact HB.out | exact HB.out.drew⟩
    · have i2 : ¬ (p : Int) ≤ (st : Int) := by omega
      have i3 : (p : Int) ≤ (a0.size : Int) := by omega
      have i4 : (p : Int) ≤ 1048576 := by omega
      by_cases hps : p = a0.size
      · have q1 : ((p : Int) == (a0.size : Int)) = true := by rw [beq_iff_eq]; omega
        clear hps h1 h3 hQb
        dsimp only
        go_wp2_with fail
        go_ret
        exact ⟨rfl, by first | exact HB.out | exact HB.out.drew⟩
      · have q1 : ((p : Int) == (a0.size : Int)) = false := by rw [beq_eq_false_iff_ne]; omega
        have hpl : p < a0.size := by omega
        obtain ⟨c, hc⟩ : ∃ c, (a0[p]'hpl).toNat = c := ⟨_, rfl⟩
        have HNC := Lib.hid (show nlC c = true from decide_eq_true (by have e := byt_at a0 p hpl; rw [hc] at e; omega))
        clear hps h1 h3 hQb
        dsimp only
        go_wp2_with fail
        refine (nl29 c _).mono ?_
        rintro e w3 ⟨rfl, rfl⟩
        rw [HNC.out]
        dsimp only
        go_wp2_with fail
        go_ret
        exact ⟨rfl, by first | exact HB.out | exact HB.out.drew⟩
end Go.Proofs.YtocciemgdikmjaaDoor
