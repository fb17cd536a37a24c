/-
  WouldStartIdentifierWithoutEscapes answers wsiB; the walk of its law of extension.
-/
import Derived.Test.YtkhcbbpkppkgjaaDoorE2
namespace Go.Proofs.YtkhcbbpkppkgjaaDoor
open Go.ChangeShapes Go.WideShapes Go.ChangeAt Go.RowKit
open Go.Lib (decodeN decode_at decodeGo)
set_option linter.unusedVariables false
theorem dec_any (s : ByteArray) (w : World) (hT : Lib.Utf8Tabs 1 2 w) (C K : Nat) (hC : (decodeGo s).1 = C) (hK : (decodeGo s).2 = K) :
    Calls Tryd.prog 34 #[.string s] w fun e w' => e = .returned (.tuple #[.int .i32 C, .int .i64 K]) ∧ Below w.heap.size w w' := by
  subst hC hK
  exact Tryd.utf8_DecodeRuneInString s w hT
theorem wsi_any (s : ByteArray) (w : World) (hs : s.size ≤ maxLen) (hT : Lib.Utf8Tabs 1 2 w) :
    Calls Tryd.prog 16 #[.string s] w fun e w' => e = .returned (.bool (wsiB s)) ∧ Below w.heap.size w w' := by
  have hm := hs
  unfold maxLen at hm
  obtain ⟨C, hC⟩ : ∃ C, (decodeGo s).1 = C := ⟨_, rfl⟩
  obtain ⟨K, hK⟩ : ∃ K, (decodeGo s).2 = K := ⟨_, rfl⟩
  have hfin : wsiB s = if C = 65533 ∧ K ≤ 1 then false else if nsB C then true else if C = 45 then (if badD (s.extract 1 s.size) then false else nsB (decodeGo (s.extract 1 s.size)).1 || decide ((decodeGo (s.extract 1 s.size)).1 = 45)) else false := by
    unfold wsiB badD
    rw [hC, hK]
    simp
  have hasc := fun h => decode_ascii s 45 (by omega) h
  have HF := Lib.hid hfin; have HC := Lib.hid hC; have HK := Lib.hid hK; have HA := Lib.hid hasc
  clear hfin hC hK hasc
  have HD := Lib.hid (dec_any s w hT C K HC.out HK.out)
  by_cases hb : C = 65533 ∧ K ≤ 1
  · obtain ⟨e1, e2⟩ := id hb
    have d1 : ((C : Int) == 65533) = true := by simp; omega
    have hr : wsiB s = false := by rw [HF.out, if_pos hb]
    have HR := Lib.hid hr
    clear hr hb e1
    go_enter Tryd.func16, Tryd.ntmps16
    go_wp2_with fail
    refine (HD.out).mono ?_
    rintro e w1 ⟨rfl, hb1⟩
    have HB := Lib.hid hb1; clear hb1
    go_wp2_with fail
    go_ret
    exact ⟨ret_bool HR.out.symm, HB.out⟩
  by_cases hn : nsB C = true
  · have hr : wsiB s = true := by rw [HF.out, if_neg hb, if_pos hn]
    have HR := Lib.hid hr
    clear hr
    by_cases e1 : C = 65533
    · have d1 : ((C : Int) == 65533) = true := by simp; omega
      have d2 : 1 < K := by omega
      have d3 : decide ((K : Int) ≤ 1) = false := by simp; omega
      clear hb e1
      go_enter Tryd.func16, Tryd.ntmps16
      go_wp2_with fail
      refine (HD.out).mono ?_
      rintro e w1 ⟨rfl, hb1⟩
      have HB := Lib.hid hb1; clear hb1
      go_wp2_with fail
      refine (ns_any _ _).mono ?_
      rintro e w2 ⟨rfl, rfl⟩
      go_wp2_with fail
      go_ret
      exact ⟨ret_bool HR.out.symm, HB.out⟩
    · have d1 : ((C : Int) == 65533) = false := by simp; omega
      clear hb e1
      go_enter Tryd.func16, Tryd.ntmps16
      go_wp2_with fail
      refine (HD.out).mono ?_
      rintro e w1 ⟨rfl, hb1⟩
      have HB := Lib.hid hb1; clear hb1
      go_wp2_with fail
      refine (ns_any _ _).mono ?_
      rintro e w2 ⟨rfl, rfl⟩
      go_wp2_with fail
      go_ret
      exact ⟨ret_bool HR.out.symm, HB.out⟩
  have hn' : nsB C = false := by simpa using hn
  have d1 : ((C : Int) == 65533) = false := by
    have : C ≠ 65533 := by intro h; subst h; simp [nsB] at hn'
    simp; omega
  by_cases h45 : C = 45
  · subst h45
    have hr : wsiB s = (if badD (s.extract 1 s.size) then false else nsB (decodeGo (s.extract 1 s.size)).1 || decide ((decodeGo (s.extract 1 s.size)).1 = 45)) := by rw [HF.out, if_neg hb, if_neg hn, if_pos rfl]
    obtain ⟨k1, hsz, _⟩ := HA.out HC.out
    obtain rfl : K = 1 := HK.out.symm.trans k1
    clear k1 hb
    obtain ⟨x, hx⟩ : ∃ x, s.extract 1 s.size = x := ⟨_, rfl⟩
    rw [hx] at hr
    obtain ⟨C2, hC2⟩ : ∃ C, (decodeGo x).1 = C := ⟨_, rfl⟩
    obtain ⟨K2, hK2⟩ : ∃ K, (decodeGo x).2 = K := ⟨_, rfl⟩
    have hr2 : wsiB s = if C2 = 65533 ∧ K2 ≤ 1 then false else nsB C2 || decide (C2 = 45) := by
      rw [hr]; unfold badD; rw [hC2, hK2]; simp
    have HX := Lib.hid hx; have HC2 := Lib.hid hC2; have HK2 := Lib.hid hK2; have HR := Lib.hid hr2
    clear hx hC2 hK2 hr2 hr HF HA
    by_cases hb2 : C2 = 65533 ∧ K2 ≤ 1
    · obtain ⟨e1, e2⟩ := id hb2
      have d2 : ((C2 : Int) == 65533) = true := by simp; omega
      have HR2 := Lib.hid (show wsiB s = false by rw [HR.out, if_pos hb2])
      clear hb2 e1 HR
      go_enter Tryd.func16, Tryd.ntmps16
      go_wp2_with fail
      refine (HD.out).mono ?_
      rintro e w1 ⟨rfl, hb1⟩
      have HT1 := Lib.hid (tabs_below hT hb1); have HB := Lib.hid hb1; clear hb1
      go_wp2_with fail
      refine (ns_any _ _).mono ?_
      rintro e w2 ⟨rfl, rfl⟩
      go_wp2_with fail
      rw [HX.out]
      refine (dec_any x w1 HT1.out C2 K2 HC2.out HK2.out).mono ?_
      rintro e w3 ⟨rfl, hb3⟩
      have HB2 := Lib.hid (HB.out.trans (hb3.mono HB.out.size)); clear hb3
      go_wp2_with fail
      go_ret
      exact ⟨ret_bool HR2.out.symm, HB2.out⟩
    · by_cases hn2 : nsB C2 = true
      · have HR2 := Lib.hid (show wsiB s = true by rw [HR.out, if_neg hb2, hn2]; rfl)
        by_cases e1 : C2 = 65533
        · have d2 : ((C2 : Int) == 65533) = true := by simp; omega
          have d3 : decide ((K2 : Int) ≤ 1) = false := by simp; omega
          have d4 : 1 < K2 := by omega
          clear hb2 e1 HR
          go_enter Tryd.func16, Tryd.ntmps16
          go_wp2_with fail
          refine (HD.out).mono ?_
          rintro e w1 ⟨rfl, hb1⟩
          have HT1 := Lib.hid (tabs_below hT hb1); have HB := Lib.hid hb1; clear hb1
          go_wp2_with fail
          refine (ns_any _ _).mono ?_
          rintro e w2 ⟨rfl, rfl⟩
          go_wp2_with fail
          rw [HX.out]
          refine (dec_any x w1 HT1.out C2 K2 HC2.out HK2.out).mono ?_
          rintro e w3 ⟨rfl, hb3⟩
          have HB2 := Lib.hid (HB.out.trans (hb3.mono HB.out.size)); clear hb3
          go_wp2_with fail
          refine (ns_any _ _).mono ?_
          rintro e w4 ⟨rfl, rfl⟩
          go_wp2_with fail
          go_ret
          exact ⟨ret_bool HR2.out.symm, HB2.out⟩
        · have d2 : ((C2 : Int) == 65533) = false := by simp; omega
          clear hb2 e1 HR
          go_enter Tryd.func16, Tryd.ntmps16
          go_wp2_with fail
          refine (HD.out).mono ?_
          rintro e w1 ⟨rfl, hb1⟩
          have HT1 := Lib.hid (tabs_below hT hb1); have HB := Lib.hid hb1; clear hb1
          go_wp2_with fail
          refine (ns_any _ _).mono ?_
          rintro e w2 ⟨rfl, rfl⟩
          go_wp2_with fail
          rw [HX.out]
          refine (dec_any x w1 HT1.out C2 K2 HC2.out HK2.out).mono ?_
          rintro e w3 ⟨rfl, hb3⟩
          have HB2 := Lib.hid (HB.out.trans (hb3.mono HB.out.size)); clear hb3
          go_wp2_with fail
          refine (ns_any _ _).mono ?_
          rintro e w4 ⟨rfl, rfl⟩
          go_wp2_with fail
          go_ret
          exact ⟨ret_bool HR2.out.symm, HB2.out⟩
      have hn2' : nsB C2 = false := by simpa using hn2
      have d2 : ((C2 : Int) == 65533) = false := by
        have : C2 ≠ 65533 := by intro h; subst h; simp [nsB] at hn2'
        simp; omega
      by_cases e1 : C2 = 45
      · have HR2 := Lib.hid (show wsiB s = true by rw [HR.out, if_neg hb2, hn2', e1]; rfl)
        have d3 : ((C2 : Int) == 45) = true := by simp; omega
        clear hb2 e1 HR
        go_enter Tryd.func16, Tryd.ntmps16
        go_wp2_with fail
        refine (HD.out).mono ?_
        rintro e w1 ⟨rfl, hb1⟩
        have HT1 := Lib.hid (tabs_below hT hb1); have HB := Lib.hid hb1; clear hb1
        go_wp2_with fail
        refine (ns_any _ _).mono ?_
        rintro e w2 ⟨rfl, rfl⟩
        go_wp2_with fail
        rw [HX.out]
        refine (dec_any x w1 HT1.out C2 K2 HC2.out HK2.out).mono ?_
        rintro e w3 ⟨rfl, hb3⟩
        have HB2 := Lib.hid (HB.out.trans (hb3.mono HB.out.size)); clear hb3
        go_wp2_with fail
        refine (ns_any _ _).mono ?_
        rintro e w4 ⟨rfl, rfl⟩
        go_wp2_with fail
        go_ret
        exact ⟨ret_bool HR2.out.symm, HB2.out⟩
      · have HR2 := Lib.hid (show wsiB s = false by rw [HR.out, if_neg hb2, hn2']; simp [e1])
        have d3 : ((C2 : Int) == 45) = false := by simp; omega
        clear hb2 e1 HR
        go_enter Tryd.func16, Tryd.ntmps16
        go_wp2_with fail
        refine (HD.out).mono ?_
        rintro e w1 ⟨rfl, hb1⟩
        have HT1 := Lib.hid (tabs_below hT hb1); have HB := Lib.hid hb1; clear hb1
        go_wp2_with fail
        refine (ns_any _ _).mono ?_
        rintro e w2 ⟨rfl, rfl⟩
        go_wp2_with fail
        rw [HX.out]
        refine (dec_any x w1 HT1.out C2 K2 HC2.out HK2.out).mono ?_
        rintro e w3 ⟨rfl, hb3⟩
        have HB2 := Lib.hid (HB.out.trans (hb3.mono HB.out.size)); clear hb3
        go_wp2_with fail
        refine (ns_any _ _).mono ?_
        rintro e w4 ⟨rfl, rfl⟩
        go_wp2_with fail
        go_ret
        exact ⟨ret_bool HR2.out.symm, HB2.out⟩
  · have hr : wsiB s = false := by rw [HF.out, if_neg hb, if_neg hn, if_neg h45]
    have HR := Lib.hid hr
    have d2 : ((C : Int) == 45) = false := by simp; omega
    clear hr hb h45
    go_enter Tryd.func16, Tryd.ntmps16
    go_wp2_with fail
    refine (HD.out).mono ?_
    rintro e w1 ⟨rfl, hb1⟩
    have HB := Lib.hid hb1; clear hb1
    go_wp2_with fail
    refine (ns_any _ _).mono ?_
    rintro e w2 ⟨rfl, rfl⟩
    go_wp2_with fail
    go_ret
    exact ⟨ret_bool HR.out.symm, HB.out⟩

theorem FnWouldStartIdentifierWithoutEscapesExtension_walk (a0 : ByteArray) (a1 : ByteArray) (w0 : a0.size ≤ maxLen) (w1 : a1.size ≤ maxLen) (w : World) (hT : Lib.Utf8Tabs 1 2 w) :
    Calls Tryd.prog 5 #[.string a0, .string a1] w fun e w' => e = .returned (.bool true) ∧ Below w.heap.size w w' := by
  have hm0 := w0; have hm1 := w1
  unfold maxLen at hm0 hm1
  by_cases s0 : 1048576 < a0.size
  · go_enter Tryd.func5, Tryd.ntmps5
    go_wp2; go_ret; exact ⟨rfl, Below.refl _ _⟩
  by_cases s1 : 1048576 < a1.size
  · go_enter Tryd.func5, Tryd.ntmps5
    go_wp2; go_ret; exact ⟨rfl, Below.refl _ _⟩
  by_cases s2 : 1048576 < a0.size + a1.size
  · go_enter Tryd.func5, Tryd.ntmps5
    go_wp2; go_ret; exact ⟨rfl, Below.refl _ _⟩
  have h1 := wsi_more a0 a1
  have h2 := wsi_five a0 a1
  have hap : (a0 ++ a1).size ≤ maxLen := by rw [ByteArray.size_append]; unfold maxLen; omega
  obtain ⟨A, hA⟩ : ∃ A, wsiB a0 = A := ⟨_, rfl⟩
  obtain ⟨B, hB⟩ : ∃ B, wsiB (a0 ++ a1) = B := ⟨_, rfl⟩
  rw [hA, hB] at h1 h2
  have HA := Lib.hid hA; have HB := Lib.hid hB; have H2 := Lib.hid h2
  clear hA hB h2
  by_cases h5 : 5 ≤ a0.size
  · have h3 := H2.out h5
    clear H2 h1
    subst h3
    cases B <;>
     (go_enter Tryd.func5, Tryd.ntmps5
      go_wp2_with (first | (go_at_call 15; go_in))
      refine (wsi_any _ _ w0 hT).mono ?_
      rw [HA.out]
      rintro e w1' ⟨rfl, hb1⟩
      have HT1 := Lib.hid (tabs_below hT hb1); have HB1 := Lib.hid hb1; clear hb1
      go_wp2_with fail
      refine (wsi_any _ _ hap HT1.out).mono ?_
      rw [HB.out]
      rintro e w2' ⟨rfl, hb2⟩
      have HB2 := Lib.hid (HB1.out.trans (hb2.mono HB1.out.size)); clear hb2
      go_wp2_with fail
      go_ret
      exact ⟨rfl, HB2.out⟩)
  · clear H2
    cases A <;> cases B <;> (try simp at h1) <;>
     (go_enter Tryd.func5, Tryd.ntmps5
      go_wp2_with (first | (go_at_call 15; go_in))
      refine (wsi_any _ _ w0 hT).mono ?_
      rw [HA.out]
      rintro e w1' ⟨rfl, hb1⟩
      have HT1 := Lib.hid (tabs_below hT hb1); have HB1 := Lib.hid hb1; clear hb1
      go_wp2_with fail
      refine (wsi_any _ _ hap HT1.out).mono ?_
      rw [HB.out]
      rintro e w2' ⟨rfl, hb2⟩
      have HB2 := Lib.hid (HB1.out.trans (hb2.mono HB1.out.size)); clear hb2
      go_wp2_with fail
      go_ret
      exact ⟨rfl, HB2.out⟩)
