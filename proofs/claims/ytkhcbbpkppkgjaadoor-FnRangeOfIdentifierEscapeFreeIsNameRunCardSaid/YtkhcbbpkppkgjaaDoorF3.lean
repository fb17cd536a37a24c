/-
  The walk of FnIsValidEscapeCaseTable.
-/
import Derived.Test.YtkhcbbpkppkgjaaDoorF2
namespace Go.Proofs.YtkhcbbpkppkgjaaDoor
open Go.ChangeShapes Go.WideShapes Go.ChangeAt Go.RowKit
open Go.Lib (decodeN decode_at decodeGo)
set_option linter.unusedVariables false
theorem dec_size (y : ByteArray) : (decodeGo y).2 ≤ y.size := by
  unfold decodeGo
  split
  · omega
  · rw [decode_at]
    simp only [Nat.sub_zero, Nat.zero_add]
    generalize (y.get! 0).toNat = b0
    generalize (y.get! 1).toNat = b1
    generalize (y.get! 2).toNat = b2
    generalize (y.get! 3).toNat = b3
    unfold decodeN
    repeat' split
    all_goals (simp; omega)
theorem nlb_any (c : Int) (w : World) : Calls Tryd.prog 13 #[.int .u8 c] w fun e w' => e = .returned (.bool (nlB c)) ∧ w = w' := by
  by_cases h1 : c = 10
  · subst h1; go_enter Tryd.func13, Tryd.ntmps13; go_wp2; go_ret; exact ⟨by simp [nlB], rfl⟩
  by_cases h2 : c = 13
  · subst h2; go_enter Tryd.func13, Tryd.ntmps13; go_wp2; go_ret; exact ⟨by simp [nlB], rfl⟩
  by_cases h3 : c = 12
  · subst h3; go_enter Tryd.func13, Tryd.ntmps13; go_wp2; go_ret; exact ⟨by simp [nlB], rfl⟩
  have h1' : (c == 10) = false := by simp [h1]
  have h2' : (c == 13) = false := by simp [h2]
  have h3' : (c == 12) = false := by simp [h3]
  go_enter Tryd.func13, Tryd.ntmps13; go_wp2; go_ret; exact ⟨by simp [nlB, *], rfl⟩
theorem stepped_below {w w' : World} {g B : Nat} (h : Stepped w w' g) (hB : B ≤ w.heap.size) (hg : B ≤ g) : Below B w w' :=
  ⟨h.by_.os, h.by_.tape, h.by_.output, h.by_.size, fun k hk => h.by_.block k (by omega) (fun e => by injection e; omega)⟩
theorem va_any (w : World) (s : ByteArray) (p : Nat) (hT : Lib.Utf8Tabs 1 2 w) (hp : p ≤ s.size) (hs : s.size ≤ 1048576) :
    Calls Tryd.prog 14 #[.string s, .int .i64 p] w fun e w' => e = .returned (.bool (iveB s (p + (decodeGo (s.extract p s.size)).2) (cpOf s p))) ∧ Below w.heap.size w w' := by
  have hds := dec_size (s.extract p s.size)
  have hxs : (s.extract p s.size).size = s.size - p := by simp
  have hcur : p + (decodeGo (s.extract p s.size)).2 ≤ s.size := by omega
  clear hds hxs
  have hb0 : Below w.heap.size w (w.alloc (.cells (lexC s p) 73)) := (Below.refl _ _).alloc (Nat.le_refl _) _
  have hcl := CL.new w s p
  have hT1 := tabs_below hT hb0
  have HB0 := Lib.hid hb0; have HCL := Lib.hid hcl
  clear hb0 hcl
  go_enter Tryd.func14, Tryd.ntmps14
  go_wp2_with (first | (refine wpList_buildTo rfl 57 #[(2, .tmp 6)] rfl (some 7) rfl (srcC s) (by kernel_rfl) ?_) | (refine wpList_buildTo rfl 73 #[(2, .tmp 7), (8, .tmp 8)] rfl (some 9) rfl (lexC s p) (by kernel_rfl) ?_))
  refine (step_any _ _ s 0 p 0 0 0 HCL.out hT1 hp hs (by omega) (by omega) (by omega) (by omega)).mono ?_
  rintro e w2 ⟨rfl, h2, hst⟩
  have hb2 : Below w.heap.size w w2 := HB0.out.trans (stepped_below hst (by simp) (Nat.le_refl _))
  have hT2 := tabs_below hT hb2
  have HB2 := Lib.hid hb2; have H2 := Lib.hid h2
  clear hst hb2 h2
  go_wp2_with fail
  refine (ive_any _ _ s _ _ _ _ _ H2.out hT2 hcur hs).mono ?_
  rintro e w3 ⟨rfl, hb3⟩
  have HB3 := Lib.hid (HB2.out.trans (hb3.mono HB2.out.size))
  clear hb3
  go_wp2_with fail
  go_ret
  exact ⟨rfl, HB3.out⟩
/-- what the law wants -/
theorem ive_end (s : ByteArray) : iveB s (s.size + (decodeGo (s.extract s.size s.size)).2) (cpOf s s.size) = false := by
  unfold iveB; rw [cp_end]; rfl
theorem ive_other (s : ByteArray) (p : Nat) (h : p < s.size) (hb : (s[p]'h).toNat ≠ 92) : iveB s (p + (decodeGo (s.extract p s.size)).2) (cpOf s p) = false := by
  unfold iveB
  by_cases h1 : (s[p]'h).toNat < 128
  · rw [cp_ascii s p h h1]; simp; omega
  · have := cp_high s p h (by omega)
    have h2 : (cpOf s p == 92) = false := by simp; omega
    rw [h2]; rfl
theorem ive_slash (s : ByteArray) (p : Nat) (h : p < s.size) (hb : (s[p]'h).toNat = 92) : iveB s (p + (decodeGo (s.extract p s.size)).2) (cpOf s p) = !nlAt s (p + 1) := by
  unfold iveB
  rw [cp_ascii s p h (by omega), (at_byte s p h).1 (by omega), hb]; rfl
set_option maxHeartbeats 1000000 in
theorem FnIsValidEscapeCaseTable_walk (a0 : ByteArray) (a1 : Int) (w0 : a0.size ≤ maxLen) (w1 : (Lit.int .i64 a1).wf = true) (w : World) (hT : Lib.Utf8Tabs 1 2 w) :
    Calls Tryd.prog 4 #[.string a0, .int .i64 a1] w fun e w' => e = .returned (.bool true) ∧ Below w.heap.size w w' := by
  have hm0 := w0
  unfold maxLen at hm0
  by_cases s0 : 1048576 < a0.size
  · go_enter Tryd.func4, Tryd.ntmps4
    go_wp2; go_ret; exact ⟨rfl, Below.refl _ _⟩
  by_cases c1 : a1 < 0
  · go_enter Tryd.func4, Tryd.ntmps4
    go_wp2; go_ret; exact ⟨rfl, Below.refl _ _⟩
  by_cases c2 : (a0.size : Int) < a1
  · go_enter Tryd.func4, Tryd.ntmps4
    go_wp2; go_ret; exact ⟨rfl, Below.refl _ _⟩
  obtain ⟨p, rfl⟩ := Int.eq_ofNat_of_zero_le (by omega : 0 ≤ a1)
  have HV := Lib.hid (va_any w a0 p hT (by omega) (by omega))
  by_cases hp : p < a0.size
  · by_cases hb : (a0[p]'hp).toNat = 92
    · have d1 : (((a0[p]'hp).toNat : Int) == 92) = true := by simp; omega
      have HI := Lib.hid (ive_slash a0 p hp hb)
      clear hb
      by_cases hq : p + 1 < a0.size
      · have HN := Lib.hid (nlAt_byte a0 (p + 1) hq)
        have d2 : decide ((a0.size : Int) ≤ (p : Int) + 1) = false := by simp; omega
        go_enter Tryd.func4, Tryd.ntmps4
        go_wp2_with (first | (go_at_call 12; go_in))
        refine (nlb_any _ _).mono ?_
        rintro e w2 ⟨rfl, rfl⟩
        go_wp2_with fail
        refine (HV.out).mono ?_
        rw [HI.out, HN.out]
        rintro e w3 ⟨rfl, hb3⟩
        go_wp2_with fail
        go_ret
        exact ⟨ret_bool (by simp), hb3⟩
      · have hpe : p + 1 = a0.size := by omega
        have HN := Lib.hid (show nlAt a0 (p + 1) = false by rw [hpe]; exact nlAt_end a0)
        clear hpe
        go_enter Tryd.func4, Tryd.ntmps4
        go_wp2_with (first | (go_at_call 12; go_in))
        refine (HV.out).mono ?_
        rw [HI.out, HN.out]
        rintro e w3 ⟨rfl, hb3⟩
        go_wp2_with fail
        go_ret
        exact ⟨rfl, hb3⟩
    · have d1 : (((a0[p]'hp).toNat : Int) == 92) = false := by simp; omega
      have HI := Lib.hid (ive_other a0 p hp hb)
      clear hb
      go_enter Tryd.func4, Tryd.ntmps4
      go_wp2_with (first | (go_at_call 12; go_in))
      refine (HV.out).mono ?_
      rw [HI.out]
      rintro e w3 ⟨rfl, hb3⟩
      go_wp2_with fail
      go_ret
      exact ⟨rfl, hb3⟩
  · obtain rfl : p = a0.size := by omega
    have HI := Lib.hid (ive_end a0)
    go_enter Tryd.func4, Tryd.ntmps4
    go_wp2_with (first | (go_at_call 12; go_in))
    refine (HV.out).mono ?_
    rw [HI.out]
    rintro e w3 ⟨rfl, hb3⟩
    go_wp2_with fail
    go_ret
    exact ⟨rfl, hb3⟩
