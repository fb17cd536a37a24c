/-
  wouldStartIdentifier of a lexer that was just stepped; where a well-formed rune stands.
-/
import Derived.Test.YtocciemgdikmjaaDoorF3
namespace Go.Proofs.YtocciemgdikmjaaDoor
open Go.ChangeShapes Go.WideShapes Go.ChangeAt Go.RowKit
open Go.Lib (decodeN decode_at decodeGo)
set_option linter.unusedVariables false
/-- what wouldStartIdentifier answers -/
def wslB (s : ByteArray) (cur : Nat) (cp : Int) : Bool :=
  if nsB cp then true
  else if cp = 45 then
    (if (decodeGo (s.extract cur s.size)).1 = 65533 ∧ (decodeGo (s.extract cur s.size)).2 ≤ 1 then false
     else if nsB (decodeGo (s.extract cur s.size)).1 || decide ((decodeGo (s.extract cur s.size)).1 = 45) then true
     else if (decodeGo (s.extract cur s.size)).1 = 92 then !nlAt s (cur + 1) else false)
  else iveB s cur cp
set_option maxHeartbeats 4000000 in
set_option maxRecDepth 100000 in
theorem wsl_92 (w : World) (g : Nat) (s : ByteArray) (nl : Int) (cur : Nat) (st ln : Int) (x y : ByteArray) (C2 K2 : Nat) (h : CL w g s nl cur 45 st ln) (hT : Lib.Utf8Tabs 0 1 w) (hc : cur + 1 ≤ s.size) (hs : s.size ≤ 1048576)
    (HX : Hid (s.extract cur s.size = x)) (HC : Hid ((decodeGo x).1 = 92)) (HK : Hid ((decodeGo x).2 = 1)) (HY : Hid (s.extract (cur + 1) s.size = y)) (HC2 : Hid ((decodeGo y).1 = C2)) (HK2 : Hid ((decodeGo y).2 = K2)) :
    Calls Tryd.prog 78 #[.pointer (some ⟨g, 0, none⟩)] w fun e w' => e = .returned (.bool (!nlB C2)) ∧ Below w.heap.size w w' := by
  have H0 := Lib.hid h
  obtain ⟨l, c10, c32, c33, c35, c36, c37, fz⟩ := h
  go_enter Tryd.func78, Tryd.ntmps78
  go_wp2_with fail
  refine (ns_any _ _).mono ?_
  rintro e w2 ⟨rfl, rfl⟩
  go_wp2
  go_region_with ((go_at_call 69; rw [HX.out]; refine (dec_any x _ (tabs_drew hT) 92 1 HC.out HK.out).mono ?_; rintro e w1 ⟨rfl, hb1⟩; have HB := Lib.hid ((Below.refl w.heap.size w).drew.trans hb1); clear hb1))
  all_goals
    have hcl := H0.out.keep HB.out
    have HT := Lib.hid (tabs_below hT HB.out)
    obtain ⟨l', c10', c32', c33', c35', c36', c37', fz'⟩ := hcl
    clear c10 c32 c33 c35 c36 c37 fz
    have hk0 : (0 : Int) ≤ (cur : Int) + 1 := by omega
    have hk1 : (cur : Int) + 1 ≤ (s.size : Int) := by omega
    have hkn : ((cur : Int) + 1).toNat = cur + 1 := by omega
    have hwr : IntKind.i64.wrap ((cur : Int) + 1) = (cur : Int) + 1 := by rw [IntKind.wrap_i64]; omega
    go_wp2_with fail
    refine (ns_any _ _).mono ?_
    rintro e w2 ⟨rfl, rfl⟩
    go_wp2
    go_region_with ((go_at_call 69; rw [HY.out]; refine (dec_any y _ (tabs_drew HT.out) C2 K2 HC2.out HK2.out).mono ?_; rintro e w3 ⟨rfl, hb1⟩; have HB2 := Lib.hid (HB.out.trans (((Below.refl w1.heap.size w1).drew.trans hb1).mono HB.out.size)); clear hb1))
    all_goals
      go_wp2_with fail
      refine (nl_any _ _).mono ?_
      rintro e w2 ⟨rfl, rfl⟩
      go_wp2_with fail
      go_ret
      exact ⟨rfl, HB2.out⟩
set_option maxHeartbeats 4000000 in
theorem wsl_any (w : World) (g : Nat) (s : ByteArray) (nl : Int) (cur : Nat) (cp st ln : Int) (h : CL w g s nl cur cp st ln) (hT : Lib.Utf8Tabs 0 1 w) (hc : cur ≤ s.size) (hs : s.size ≤ 1048576) :
    Calls Tryd.prog 78 #[.pointer (some ⟨g, 0, none⟩)] w fun e w' => e = .returned (.bool (wslB s cur cp)) ∧ Below w.heap.size w w' := by
  have H0 := Lib.hid h
  have HI := Lib.hid (ive_any w g s nl cur cp st ln h hT hc hs)
  obtain ⟨l, c10, c32, c33, c35, c36, c37, fz⟩ := id h
  by_cases hn : nsB cp = true
  · have HR := Lib.hid (show wslB s cur cp = true by unfold wslB; rw [if_pos hn])
    go_enter Tryd.func78, Tryd.ntmps78
    go_wp2_with fail
    refine (ns_any _ _).mono ?_
    rintro e w2 ⟨rfl, rfl⟩
    go_wp2_with fail
    go_ret
    exact ⟨ret_bool HR.out.symm, Below.refl _ _⟩
  have hn' : nsB cp = false := by simpa using hn
  by_cases hcp : cp = 45
  · subst hcp
    clear HI
    obtain ⟨x, hx⟩ : ∃ x, s.extract cur s.size = x := ⟨_, rfl⟩
    obtain ⟨C, hC⟩ : ∃ C, (decodeGo x).1 = C := ⟨_, rfl⟩
    obtain ⟨K, hK⟩ : ∃ K, (decodeGo x).2 = K := ⟨_, rfl⟩
    have hr : wslB s cur 45 = (if C = 65533 ∧ K ≤ 1 then false else if nsB C || decide (C = 45) then true else if C = 92 then !nlAt s (cur + 1) else false) := by
      unfold wslB
      rw [if_neg hn, if_pos rfl, hx, hC, hK]
    have hasc := fun h => decode_ascii x 92 (by omega) h
    have hxs : x.size = s.size - cur := by rw [← hx]; simp
    have HX := Lib.hid hx; have HC := Lib.hid hC; have HK := Lib.hid hK; have HR := Lib.hid hr
    clear hx hC hK hr h hn
    by_cases hb : C = 65533 ∧ K ≤ 1
    · obtain ⟨e1, e2⟩ := id hb
      have d1 : ((C : Int) == 65533) = true := by simp; omega
      have HR2 := Lib.hid (show wslB s cur 45 = false by rw [HR.out, if_pos hb])
      clear hb e1 HR hasc
      go_enter Tryd.func78, Tryd.ntmps78
      go_wp2_with fail
      refine (ns_any _ _).mono ?_
      rintro e w2 ⟨rfl, rfl⟩
      go_wp2
      go_region_with ((go_at_call 69; rw [HX.out]; refine (dec_any x _ (tabs_drew hT) C K HC.out HK.out).mono ?_; rintro e w1 ⟨rfl, hb1⟩; have HB := Lib.hid ((Below.refl w.heap.size w).drew.trans hb1); clear hb1))
      all_goals
        go_wp2_with fail
        go_ret
        exact ⟨ret_bool HR2.out.symm, HB.out⟩
    by_cases hn2 : nsB C = true
    · have HR2 := Lib.hid (show wslB s cur 45 = true by rw [HR.out, if_neg hb, if_pos (by simp [hn2])])
      by_cases e1 : C = 65533
      · have d1 : ((C : Int) == 65533) = true := by simp; omega
        have d3 : decide ((K : Int) ≤ 1) = false := by simp; omega
        have d4 : 1 < K := by omega
        clear hb e1 HR hasc
        go_enter Tryd.func78, Tryd.ntmps78
        go_wp2_with fail
        refine (ns_any _ _).mono ?_
        rintro e w2 ⟨rfl, rfl⟩
        go_wp2
        go_region_with ((go_at_call 69; rw [HX.out]; refine (dec_any x _ (tabs_drew hT) C K HC.out HK.out).mono ?_; rintro e w1 ⟨rfl, hb1⟩; have HB := Lib.hid ((Below.refl w.heap.size w).drew.trans hb1); clear hb1))
        all_goals
          go_wp2_with fail
          refine (ns_any _ _).mono ?_
          rintro e w2 ⟨rfl, rfl⟩
          go_wp2_with fail
          go_ret
          exact ⟨ret_bool HR2.out.symm, HB.out⟩
      · have d1 : ((C : Int) == 65533) = false := by simp; omega
        clear hb e1 HR hasc
        go_enter Tryd.func78, Tryd.ntmps78
        go_wp2_with fail
        refine (ns_any _ _).mono ?_
        rintro e w2 ⟨rfl, rfl⟩
        go_wp2
        go_region_with ((go_at_call 69; rw [HX.out]; refine (dec_any x _ (tabs_drew hT) C K HC.out HK.out).mono ?_; rintro e w1 ⟨rfl, hb1⟩; have HB := Lib.hid ((Below.refl w.heap.size w).drew.trans hb1); clear hb1))
        all_goals
          go_wp2_with fail
          refine (ns_any _ _).mono ?_
          rintro e w2 ⟨rfl, rfl⟩
          go_wp2_with fail
          go_ret
          exact ⟨ret_bool HR2.out.symm, HB.out⟩
    have hn2' : nsB C = false := by simpa using hn2
    have d1 : ((C : Int) == 65533) = false := by
      have : C ≠ 65533 := by intro h; subst h; simp [nsB] at hn2'
      simp; omega
    by_cases h45 : C = 45
    · have d2 : ((C : Int) == 45) = true := by simp; omega
      have HR2 := Lib.hid (show wslB s cur 45 = true by rw [HR.out, if_neg hb, if_pos (by simp [h45])])
      clear hb h45 HR hasc
      go_enter Tryd.func78, Tryd.ntmps78
      go_wp2_with fail
      refine (ns_any _ _).mono ?_
      rintro e w2 ⟨rfl, rfl⟩
      go_wp2
      go_region_with ((go_at_call 69; rw [HX.out]; refine (dec_any x _ (tabs_drew hT) C K HC.out HK.out).mono ?_; rintro e w1 ⟨rfl, hb1⟩; have HB := Lib.hid ((Below.refl w.heap.size w).drew.trans hb1); clear hb1))
      all_goals
        go_wp2_with fail
        refine (ns_any _ _).mono ?_
        rintro e w2 ⟨rfl, rfl⟩
        go_wp2_with fail
        go_ret
        exact ⟨ret_bool HR2.out.symm, HB.out⟩
    have d2 : ((C : Int) == 45) = false := by simp; omega
    by_cases h92 : C = 92
    · subst h92
      have HR2 := Lib.hid (show wslB s cur 45 = !nlAt s (cur + 1) by rw [HR.out, if_neg hb, if_neg (by decide), if_pos rfl])
      obtain ⟨k1, hsz, _⟩ := hasc HC.out
      obtain rfl : K = 1 := HK.out.symm.trans k1
      obtain ⟨y, hy⟩ : ∃ y, s.extract (cur + 1) s.size = y := ⟨_, rfl⟩
      obtain ⟨C2, hC2⟩ : ∃ C, (decodeGo y).1 = C := ⟨_, rfl⟩
      obtain ⟨K2, hK2⟩ : ∃ K, (decodeGo y).2 = K := ⟨_, rfl⟩
      have hr3 : wslB s cur 45 = !nlB C2 := by rw [HR2.out]; unfold nlAt; rw [hy, hC2]
      rw [hr3]
      exact wsl_92 w g s nl cur st ln x y C2 K2 H0.out hT (by omega) hs HX HC HK (Lib.hid hy) (Lib.hid hC2) (Lib.hid hK2)
    · have d3 : ((C : Int) == 92) = false := by simp; omega
      have HR2 := Lib.hid (show wslB s cur 45 = false by rw [HR.out, if_neg hb, if_neg (by simp [hn2', h45]), if_neg h92])
      clear hb h45 h92 HR hasc
      go_enter Tryd.func78, Tryd.ntmps78
      go_wp2_with fail
      refine (ns_any _ _).mono ?_
      rintro e w2 ⟨rfl, rfl⟩
      go_wp2
      go_region_with ((go_at_call 69; rw [HX.out]; refine (dec_any x _ (tabs_drew hT) C K HC.out HK.out).mono ?_; rintro e w1 ⟨rfl, hb1⟩; have HB := Lib.hid ((Below.refl w.heap.size w).drew.trans hb1); clear hb1))
      all_goals
        go_wp2_with fail
        refine (ns_any _ _).mono ?_
        rintro e w2 ⟨rfl, rfl⟩
        go_wp2_with fail
        go_ret
        exact ⟨ret_bool HR2.out.symm, HB.out⟩
  · have d0 : (cp == 45) = false := by simp [hcp]
    have HR := Lib.hid (show wslB s cur cp = iveB s cur cp by unfold wslB; rw [if_neg hn, if_neg hcp])
    clear hcp hn
    go_enter Tryd.func78, Tryd.ntmps78
    go_wp2_with fail
    refine (ns_any _ _).mono ?_
    rintro e w2 ⟨rfl, rfl⟩
    go_wp2_with fail
    refine (HI.out).mono ?_
    rintro e w3 ⟨rfl, hb3⟩
    go_wp2_with fail
    go_ret
    exact ⟨ret_bool HR.out.symm, hb3⟩
end Go.Proofs.YtocciemgdikmjaaDoor
