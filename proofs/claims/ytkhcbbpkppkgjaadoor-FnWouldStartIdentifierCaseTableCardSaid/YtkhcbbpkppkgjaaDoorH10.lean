/-
  The case table's own function and the walk of FnWouldStartIdentifierCaseTable.
-/
import Derived.Test.YtkhcbbpkppkgjaaDoorH9
namespace Go.Proofs.YtkhcbbpkppkgjaaDoor
open Go.ChangeShapes Go.WideShapes Go.ChangeAt Go.RowKit
open Go.Lib (decodeN decode_at decodeGo)
set_option linter.unusedVariables false
theorem nsb31 (c : Int) (h : c < 128) (w : World) : Calls Tryd.prog 31 #[.int .u8 c] w fun e w' => e = .returned (.bool (nsB c)) ∧ w = w' := by
  by_cases h5 : c = 95
  · subst h5; go_enter Tryd.func31, Tryd.ntmps31; go_wp2; go_ret; exact ⟨by simp [nsB], rfl⟩
  have h5' : (c == 95) = false := by simp [h5]
  by_cases h6 : c = 0
  · subst h6; go_enter Tryd.func31, Tryd.ntmps31; go_wp2; go_ret; exact ⟨by simp [nsB], rfl⟩
  have h6' : (c == 0) = false := by simp [h6]
  have h7 : ¬ 128 ≤ c := by omega
  by_cases h1 : 97 ≤ c <;> by_cases h2 : c ≤ 122 <;> by_cases h3 : 65 ≤ c <;> by_cases h4 : c ≤ 90 <;> (try omega) <;> (go_enter Tryd.func31, Tryd.ntmps31; go_wp2; go_ret; exact ⟨by simp [nsB, *], rfl⟩)
/-- the answer of the lexer at place p -/
def wsp (s : ByteArray) (p : Nat) : Bool := wslB s (p + (decodeGo (s.extract p s.size)).2) (cpOf s p)
theorem wsp_end (s : ByteArray) : wsp s s.size = false := by
  unfold wsp wslB iveB; rw [cp_end]; simp [nsB]
theorem wsp_high (s : ByteArray) (p : Nat) (h : p < s.size) (hb : 128 ≤ (s[p]'h).toNat) : wsp s p = true := by
  have := cp_high s p h hb
  unfold wsp wslB; rw [if_pos (by simp [nsB]; omega)]
theorem wsp_ascii (s : ByteArray) (p : Nat) (h : p < s.size) (hb : (s[p]'h).toNat < 128) : wsp s p = wslB s (p + 1) (s[p]'h).toNat := by
  unfold wsp; rw [cp_ascii s p h hb, (at_byte s p h).1 hb]
theorem wsp_ns (s : ByteArray) (p : Nat) (h : p < s.size) (hb : (s[p]'h).toNat < 128) (hn : nsB (s[p]'h).toNat = true) : wsp s p = true := by
  rw [wsp_ascii s p h hb]; unfold wslB; rw [if_pos hn]
theorem wsp_slash (s : ByteArray) (p : Nat) (h : p < s.size) (hb : (s[p]'h).toNat = 92) : wsp s p = !nlAt s (p + 1) := by
  rw [wsp_ascii s p h (by omega), hb]; unfold wslB iveB; rw [if_neg (by decide), if_neg (by decide)]; rfl
theorem wsp_other (s : ByteArray) (p : Nat) (h : p < s.size) (hb : (s[p]'h).toNat < 128) (hn : nsB (s[p]'h).toNat = false) (h92 : (s[p]'h).toNat ≠ 92) (h45 : (s[p]'h).toNat ≠ 45) : wsp s p = false := by
  rw [wsp_ascii s p h hb]; unfold wslB iveB; rw [if_neg (by simp [hn]), if_neg (by omega)]; simp; omega
theorem wsp_minus (s : ByteArray) (p : Nat) (h : p < s.size) (hb : (s[p]'h).toNat = 45) : wsp s p =
    (if (decodeGo (s.extract (p + 1) s.size)).1 = 65533 ∧ (decodeGo (s.extract (p + 1) s.size)).2 ≤ 1 then false
     else if nsB (decodeGo (s.extract (p + 1) s.size)).1 || decide ((decodeGo (s.extract (p + 1) s.size)).1 = 45) then true
     else if (decodeGo (s.extract (p + 1) s.size)).1 = 92 then !nlAt s (p + 1 + 1) else false) := by
  rw [wsp_ascii s p h (by omega), hb]; unfold wslB; rw [if_neg (by decide), if_pos (by decide)]
theorem wsp_m_end (s : ByteArray) (p : Nat) (h : p < s.size) (hb : (s[p]'h).toNat = 45) (he : p + 1 = s.size) : wsp s p = false := by
  rw [wsp_minus s p h hb, he, at_end, if_pos ⟨rfl, by simp⟩]
theorem wsp_m_high (s : ByteArray) (p : Nat) (h : p < s.size) (hb : (s[p]'h).toNat = 45) (hq : p + 1 < s.size) (hb2 : 128 ≤ (s[p + 1]'hq).toNat) : wsp s p = !badD (s.extract (p + 1) s.size) := by
  rw [wsp_minus s p h hb]
  have h1 := (at_byte s (p + 1) hq).2.1 hb2
  unfold badD
  by_cases hbad : (decodeGo (s.extract (p + 1) s.size)).1 = 65533 ∧ (decodeGo (s.extract (p + 1) s.size)).2 ≤ 1
  · rw [if_pos hbad, decide_eq_true hbad]; rfl
  · rw [if_neg hbad, decide_eq_false hbad, if_pos (by simp [nsB]; omega)]; rfl
theorem wsp_m_ascii (s : ByteArray) (p : Nat) (h : p < s.size) (hb : (s[p]'h).toNat = 45) (hq : p + 1 < s.size) (hb2 : (s[p + 1]'hq).toNat < 128) : wsp s p =
    (if nsB (s[p + 1]'hq).toNat || decide ((s[p + 1]'hq).toNat = 45) then true else if (s[p + 1]'hq).toNat = 92 then !nlAt s (p + 1 + 1) else false) := by
  rw [wsp_minus s p h hb, (at_byte s (p + 1) hq).1 hb2, if_neg (by simp; omega)]
set_option maxRecDepth 100000 in
set_option maxHeartbeats 4000000 in
theorem wsa10 (w : World) (s : ByteArray) (p : Nat) (hT : Lib.Utf8Tabs 1 2 w) (hp : p ≤ s.size) (hs : s.size ≤ 1048576) :
    Calls Tryd.prog 10 #[.string s, .int .i64 p] w fun e w' => e = .returned (.bool (wsp s p)) ∧ Below w.heap.size w w' := by
  have hds := dec_size (s.extract p s.size)
  have hxs : (s.extract p s.size).size = s.size - p := by simp
  have hcur : p + (decodeGo (s.extract p s.size)).2 ≤ s.size := by omega
  clear hds hxs
  have hb0 : Below w.heap.size w (w.alloc (.cells (lexC s p) 73)) := (Below.refl _ _).alloc (Nat.le_refl _) _
  have hcl := CL.new w s p
  have hT1 := tabs_below hT hb0
  have HB0 := Lib.hid hb0; have HCL := Lib.hid hcl
  clear hb0 hcl
  go_enter Tryd.func10, Tryd.ntmps10
  go_wp2_with (first | (refine wpList_buildTo rfl 57 #[(2, .tmp 6)] rfl (some 7) rfl (srcC s) (by kernel_rfl) ?_) | (refine wpList_buildTo rfl 73 #[(2, .tmp 7), (8, .tmp 8)] rfl (some 9) rfl (lexC s p) (by kernel_rfl) ?_))
  refine (step_any _ _ s 0 p 0 0 0 HCL.out hT1 hp hs (by omega) (by omega) (by omega) (by omega)).mono ?_
  rintro e w2 ⟨rfl, h2, hst⟩
  have hb2 : Below w.heap.size w w2 := HB0.out.trans (stepped_below hst (by simp) (Nat.le_refl _))
  have hT2 := tabs_below hT hb2
  have HB2 := Lib.hid hb2; have H2 := Lib.hid h2
  clear hst hb2 h2
  go_wp2_with fail
  refine (wsl_any _ _ s _ _ _ _ _ H2.out hT2 hcur hs).mono ?_
  rintro e w3 ⟨rfl, hb3⟩
  have HB3 := Lib.hid (HB2.out.trans (hb3.mono HB2.out.size))
  clear hb3
  go_wp2_with fail
  go_ret
  exact ⟨rfl, HB3.out⟩
set_option maxRecDepth 100000 in
set_option maxHeartbeats 4000000 in
theorem mdl11 (w : World) (s : ByteArray) (p : Nat) (hp : p ≤ s.size) (hs : s.size ≤ 1048576) :
    Calls Tryd.prog 11 #[.string s, .int .i64 p] w fun e w' => e = .returned (.bool (wsp s p)) ∧ w = w' := by
  by_cases h : p < s.size
  · by_cases hb : 128 ≤ (s[p]'h).toNat
    · have HR := Lib.hid (wsp_high s p h hb)
      go_enter Tryd.func11, Tryd.ntmps11
      go_wp2_with fail
      go_ret
      exact ⟨ret_bool HR.out.symm, rfl⟩
    have H31 := Lib.hid (fun w => nsb31 (s[p]'h).toNat (by omega) w)
    cases hn : nsB (s[p]'h).toNat
    · rw [hn] at H31
      by_cases h92 : (s[p]'h).toNat = 92
      · have HR := Lib.hid (wsp_slash s p h h92)
        have d1 : (((s[p]'h).toNat : Int) == 92) = true := by simp; omega
        clear hn h92
        by_cases hq : p + 1 < s.size
        · have HN := Lib.hid (nlAt_byte s (p + 1) hq)
          have d2 : decide ((s.size : Int) ≤ (p : Int) + 1) = false := by simp; omega
          go_enter Tryd.func11, Tryd.ntmps11
          go_wp2_with fail
          refine (H31.out _).mono ?_
          rintro e w2 ⟨rfl, rfl⟩
          go_wp2_with fail
          refine (nlb_any _ _).mono ?_
          rintro e w2 ⟨rfl, rfl⟩
          go_wp2_with fail
          go_ret
          exact ⟨ret_bool (by rw [HR.out, HN.out]), rfl⟩
        · have hpe : p + 1 = s.size := by omega
          have HN := Lib.hid (show nlAt s (p + 1) = false by rw [hpe]; exact nlAt_end s)
          clear hpe
          go_enter Tryd.func11, Tryd.ntmps11
          go_wp2_with fail
          refine (H31.out _).mono ?_
          rintro e w2 ⟨rfl, rfl⟩
          go_wp2_with fail
          go_ret
          exact ⟨ret_bool (by rw [HR.out, HN.out]; rfl), rfl⟩
      have d1 : (((s[p]'h).toNat : Int) == 92) = false := by simp; omega
      by_cases h45 : (s[p]'h).toNat = 45
      · have d2 : (((s[p]'h).toNat : Int) != 45) = false := by simp; omega
        by_cases hq : p + 1 < s.size
        · by_cases hb2 : 128 ≤ (s[p + 1]'hq).toNat
          · have HR := Lib.hid (wsp_m_high s p h h45 hq hb2)
            have HV := Lib.hid (fun w => vrl_any s (p + 1) hq hs hb2 w)
            clear hn h92 h45
            go_enter Tryd.func11, Tryd.ntmps11
            go_wp2_with fail
            refine (H31.out _).mono ?_
            rintro e w2 ⟨rfl, rfl⟩
            go_wp2_with fail
            refine (HV.out _).mono ?_
            rintro e w2 ⟨⟨K, rfl, hK⟩, rfl⟩
            have HK := Lib.hid hK; clear hK
            go_wp2_with fail
            go_ret
            refine ⟨ret_bool ?_, rfl⟩
            rw [HR.out]
            cases hbd : badD (s.extract (p + 1) s.size)
            · have : K ≠ 0 := fun h0 => by have := HK.out.1 h0; rw [hbd] at this; cases this
              simp [this]
            · have : K = 0 := HK.out.2 hbd
              simp [this]
          · have HR := Lib.hid (wsp_m_ascii s p h h45 hq (by omega))
            have H31b := Lib.hid (fun w => nsb31 (s[p + 1]'hq).toNat (by omega) w)
            clear hn h92 h45
            cases hn2 : nsB (s[p + 1]'hq).toNat
            · rw [hn2] at H31b
              by_cases e45 : (s[p + 1]'hq).toNat = 45
              · have HR2 := Lib.hid (show wsp s p = true by rw [HR.out, if_pos (by simp [e45])])
                have d3 : (((s[p + 1]'hq).toNat : Int) == 45) = true := by simp; omega
                clear hn2 e45 HR
                go_enter Tryd.func11, Tryd.ntmps11
                go_wp2_with fail
                refine (H31.out _).mono ?_
                rintro e w2 ⟨rfl, rfl⟩
                go_wp2_with fail
                refine (H31b.out _).mono ?_
                rintro e w2 ⟨rfl, rfl⟩
                go_wp2_with fail
                go_ret
                exact ⟨ret_bool HR2.out.symm, rfl⟩
              have d3 : (((s[p + 1]'hq).toNat : Int) == 45) = false := by simp; omega
              by_cases e92 : (s[p + 1]'hq).toNat = 92
              · have HR2 := Lib.hid (show wsp s p = !nlAt s (p + 1 + 1) by rw [HR.out, if_neg (by simp [hn2, e45]), if_pos e92])
                have d4 : (((s[p + 1]'hq).toNat : Int) == 92) = true := by simp; omega
                clear hn2 e45 HR e92
                by_cases hr : p + 1 + 1 < s.size
                · have HN := Lib.hid (nlAt_byte s (p + 1 + 1) hr)
                  have d5 : decide ((s.size : Int) ≤ (p : Int) + 1 + 1) = false := by simp; omega
                  go_enter Tryd.func11, Tryd.ntmps11
                  go_wp2_with fail
                  refine (H31.out _).mono ?_
                  rintro e w2 ⟨rfl, rfl⟩
                  go_wp2_with fail
                  refine (H31b.out _).mono ?_
                  rintro e w2 ⟨rfl, rfl⟩
                  go_wp2_with fail
                  refine (nlb_any _ _).mono ?_
                  rintro e w2 ⟨rfl, rfl⟩
                  go_wp2_with fail
                  go_ret
                  exact ⟨ret_bool (by rw [HR2.out, HN.out]), rfl⟩
                · have hpe : p + 1 + 1 = s.size := by omega
                  have HN := Lib.hid (show nlAt s (p + 1 + 1) = false by rw [hpe]; exact nlAt_end s)
                  clear hpe
                  go_enter Tryd.func11, Tryd.ntmps11
                  go_wp2_with fail
                  refine (H31.out _).mono ?_
                  rintro e w2 ⟨rfl, rfl⟩
                  go_wp2_with fail
                  refine (H31b.out _).mono ?_
                  rintro e w2 ⟨rfl, rfl⟩
                  go_wp2_with fail
                  go_ret
                  exact ⟨ret_bool (by rw [HR2.out, HN.out]; rfl), rfl⟩
              · have HR2 := Lib.hid (show wsp s p = false by rw [HR.out, if_neg (by simp [hn2, e45]), if_neg e92])
                have d4 : (((s[p + 1]'hq).toNat : Int) == 92) = false := by simp; omega
                clear hn2 e45 HR e92
                go_enter Tryd.func11, Tryd.ntmps11
                go_wp2_with fail
                refine (H31.out _).mono ?_
                rintro e w2 ⟨rfl, rfl⟩
                go_wp2_with fail
                refine (H31b.out _).mono ?_
                rintro e w2 ⟨rfl, rfl⟩
                go_wp2_with fail
                go_ret
                exact ⟨ret_bool HR2.out.symm, rfl⟩
            · rw [hn2] at H31b
              have HR2 := Lib.hid (show wsp s p = true by rw [HR.out, if_pos (by simp [hn2])])
              clear hn2 HR
              go_enter Tryd.func11, Tryd.ntmps11
              go_wp2_with fail
              refine (H31.out _).mono ?_
              rintro e w2 ⟨rfl, rfl⟩
              go_wp2_with fail
              refine (H31b.out _).mono ?_
              rintro e w2 ⟨rfl, rfl⟩
              go_wp2_with fail
              go_ret
              exact ⟨ret_bool HR2.out.symm, rfl⟩
        · have HR := Lib.hid (wsp_m_end s p h h45 (by omega))
          clear hn h92 h45
          go_enter Tryd.func11, Tryd.ntmps11
          go_wp2_with fail
          refine (H31.out _).mono ?_
          rintro e w2 ⟨rfl, rfl⟩
          go_wp2_with fail
          go_ret
          exact ⟨ret_bool HR.out.symm, rfl⟩
      · have HR := Lib.hid (wsp_other s p h (by omega) hn h92 h45)
        have d2 : (((s[p]'h).toNat : Int) != 45) = true := by simp; omega
        clear hn h92 h45
        go_enter Tryd.func11, Tryd.ntmps11
        go_wp2_with fail
        refine (H31.out _).mono ?_
        rintro e w2 ⟨rfl, rfl⟩
        go_wp2_with fail
        go_ret
        exact ⟨ret_bool HR.out.symm, rfl⟩
    · rw [hn] at H31
      have HR := Lib.hid (wsp_ns s p h (by omega) hn)
      clear hn
      go_enter Tryd.func11, Tryd.ntmps11
      go_wp2_with fail
      refine (H31.out _).mono ?_
      rintro e w2 ⟨rfl, rfl⟩
      go_wp2_with fail
      go_ret
      exact ⟨ret_bool HR.out.symm, rfl⟩
  · obtain rfl : p = s.size := by omega
    have HR := Lib.hid (wsp_end s)
    go_enter Tryd.func11, Tryd.ntmps11
    go_wp2_with fail
    go_ret
    exact ⟨ret_bool HR.out.symm, rfl⟩
set_option maxRecDepth 100000 in
set_option maxHeartbeats 1000000 in
theorem FnWouldStartIdentifierCaseTable_walk (a0 : ByteArray) (a1 : Int) (w0 : a0.size ≤ maxLen) (w1 : (Lit.int .i64 a1).wf = true) (w : World) (hT : Lib.Utf8Tabs 1 2 w) :
    Calls Tryd.prog 3 #[.string a0, .int .i64 a1] w fun e w' => e = .returned (.bool true) ∧ Below w.heap.size w w' := by
  have hm0 := w0
  unfold maxLen at hm0
  by_cases s0 : 1048576 < a0.size
  · go_enter Tryd.func3, Tryd.ntmps3
    go_wp2_with (first | (go_at_call 9; go_in)); go_ret; exact ⟨rfl, Below.refl _ _⟩
  by_cases c1 : a1 < 0
  · go_enter Tryd.func3, Tryd.ntmps3
    go_wp2_with (first | (go_at_call 9; go_in)); go_ret; exact ⟨rfl, Below.refl _ _⟩
  by_cases c2 : (a0.size : Int) < a1
  · go_enter Tryd.func3, Tryd.ntmps3
    go_wp2_with (first | (go_at_call 9; go_in)); go_ret; exact ⟨rfl, Below.refl _ _⟩
  obtain ⟨p, rfl⟩ := Int.eq_ofNat_of_zero_le (by omega : 0 ≤ a1)
  have HV := Lib.hid (wsa10 w a0 p hT (by omega) (by omega))
  have HM := Lib.hid (fun w => mdl11 w a0 p (by omega) (by omega))
  generalize wsp a0 p = b at HV HM
  go_enter Tryd.func3, Tryd.ntmps3
  go_wp2_with (first | (go_at_call 9; go_in))
  refine (HV.out).mono ?_
  rintro e w3 ⟨rfl, hb3⟩
  go_wp2_with fail
  refine (HM.out _).mono ?_
  rintro e w4 ⟨rfl, rfl⟩
  go_wp2_with fail
  go_ret
  exact ⟨ret_bool (by simp), hb3⟩
end Go.Proofs.YtkhcbbpkppkgjaaDoor
