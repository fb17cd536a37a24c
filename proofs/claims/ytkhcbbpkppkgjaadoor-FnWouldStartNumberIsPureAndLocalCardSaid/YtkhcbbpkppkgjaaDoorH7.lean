/-
  The walk of FnWouldStartNumberIsPureAndLocal.
-/
import Derived.Test.YtkhcbbpkppkgjaaDoorH6
namespace Go.Proofs.YtkhcbbpkppkgjaaDoor
open Go.ChangeShapes Go.WideShapes Go.ChangeAt Go.RowKit
open Go.Lib (decodeN decode_at decodeGo)
set_option linter.unusedVariables false
theorem below_drewN (w : World) (B n : Nat) : Below B w (w.drewN n) := ⟨rfl, rfl, rfl, Nat.le_refl _, fun _ _ => rfl⟩
theorem lexC0 (s : ByteArray) : Tryd.prog.built 73 [(2, .agg (srcC s))] = some (lexC s 0) := by kernel_rfl
theorem lexC_38 (s : ByteArray) (p : Int) : (lexC s p)[38]? = some (.int .u16 0) := by kernel_rfl
theorem lexC_39 (s : ByteArray) (p : Int) : (lexC s p)[39]? = some (.int .u8 0) := by kernel_rfl
theorem lexC_40 (s : ByteArray) (p : Int) : (lexC s p)[40]? = some (.int .u8 0) := by kernel_rfl
set_option maxRecDepth 100000 in
theorem newl_any (s : ByteArray) (w : World) : Calls Tryd.prog 24 #[.string s] w fun e w' => e = .returned (.pointer (some ⟨w.heap.size, 0, none⟩)) ∧ w.alloc (.cells (lexC s 0) 73) = w' := by
  go_enter Tryd.func24, Tryd.ntmps24
  go_wp2_with (first | (refine wpList_buildTo rfl 57 #[(2, .tmp 3)] rfl (some 4) rfl (srcC s) (by kernel_rfl) ?_) | (refine wpList_buildTo rfl 73 #[(2, .tmp 4)] rfl (some 5) rfl (lexC s 0) (by kernel_rfl) ?_))
  go_ret
  exact ⟨rfl, rfl⟩
set_option maxRecDepth 100000 in
theorem step25 (w : World) (g : Nat) (Q : World → Prop) (H : Hid (Calls Tryd.prog 29 #[.pointer (some ⟨g, 0, none⟩)] w fun e w' => e = .returned (.tuple #[]) ∧ Q w')) :
    Calls Tryd.prog 25 #[.pointer (some ⟨g, 0, none⟩)] w fun e w' => e = .returned (.tuple #[]) ∧ Q w' := by
  go_enter Tryd.func25, Tryd.ntmps25
  go_wp2_with fail
  refine (H.out).mono ?_
  rintro e v2 ⟨rfl, h2⟩
  go_wp2_with fail
  go_end0
  exact ⟨rfl, h2⟩
set_option maxRecDepth 100000 in
theorem cp26 (w : World) (g : Nat) (cp : Int) (c35 : w.cell? ⟨g, 35, none⟩ = some (.int .i32 cp)) :
    Calls Tryd.prog 26 #[.pointer (some ⟨g, 0, none⟩)] w fun e w' => e = .returned (.int .i32 cp) ∧ w' = w := by
  go_enter Tryd.func26, Tryd.ntmps26
  go_wp2_with fail
  go_ret
  exact ⟨rfl, rfl⟩
set_option maxRecDepth 100000 in
theorem cur27 (w : World) (g : Nat) (cur : Int) (c33 : w.cell? ⟨g, 33, none⟩ = some (.int .i64 cur)) :
    Calls Tryd.prog 27 #[.pointer (some ⟨g, 0, none⟩)] w fun e w' => e = .returned (.int .i64 cur) ∧ w' = w := by
  go_enter Tryd.func27, Tryd.ntmps27
  go_wp2_with fail
  go_ret
  exact ⟨rfl, rfl⟩
set_option maxRecDepth 100000 in
theorem wsn28 (w : World) (g : Nat) (b : Bool) (H : Hid (Calls Tryd.prog 38 #[.pointer (some ⟨g, 0, none⟩)] w fun e w' => e = .returned (.bool b) ∧ w = w')) :
    Calls Tryd.prog 28 #[.pointer (some ⟨g, 0, none⟩)] w fun e w' => e = .returned (.bool b) ∧ w' = w := by
  go_enter Tryd.func28, Tryd.ntmps28
  go_wp2_with fail
  refine (H.out).mono ?_
  rintro e v2 ⟨rfl, rfl⟩
  go_wp2_with fail
  go_ret
  exact ⟨rfl, rfl⟩
set_option maxRecDepth 100000 in
set_option maxHeartbeats 16000000 in
theorem FnWouldStartNumberIsPureAndLocal_walk (a0 : ByteArray) (w0 : a0.size ≤ maxLen) (w : World) (hT : Lib.Utf8Tabs 1 2 w) :
    Calls Tryd.prog 8 #[.string a0] w fun e w' => e = .returned (.bool true) ∧ Below w.heap.size w w' := by
  have hm0 := w0
  unfold maxLen at hm0
  by_cases s0 : 1048576 < a0.size
  · go_enter Tryd.func8, Tryd.ntmps8
    go_wp2_with (first | (go_at_call 23; go_in))
    go_ret; exact ⟨rfl, Below.refl _ _⟩
  go_enter Tryd.func8, Tryd.ntmps8
  go_wp2_with (first | (go_at_call 23; go_in))
  refine (newl_any _ _).mono ?_
  rintro e v1 ⟨rfl, rfl⟩
  have hb0 : Below w.heap.size w (w.alloc (.cells (lexC a0 0) 73)) := (Below.refl _ _).alloc (Nat.le_refl _) _
  have HT0 := Lib.hid (tabs_below hT hb0)
  have HCL := Lib.hid (CL.new w a0 0)
  have HB0 := Lib.hid hb0
  have hcc : ∀ i, (w.alloc (.cells (lexC a0 0) 73)).cell? ⟨w.heap.size, i, none⟩ = (lexC a0 0)[i]? := fun i => by
    have h : (w.alloc (.cells (lexC a0 0) 73)).heap[w.heap.size]? = some (.cells (lexC a0 0) 73) := by
      show (w.heap.push _)[w.heap.size]? = _
      simp
    simp only [World.cell?, h]; rfl
  have HCC := Lib.hid hcc
  clear hb0 hcc
  go_wp2_with fail
  refine (step25 _ _ _ (Lib.hid (step_any _ _ a0 0 0 0 0 0 HCL.out HT0.out (by omega) (by omega) (by omega) (by omega) (by omega) (by omega)))).mono ?_
  rintro e v2 ⟨rfl, h2, hst⟩
  obtain ⟨cp, hcp⟩ : ∃ cp, cpOf a0 0 = cp := ⟨_, rfl⟩
  obtain ⟨K, hK⟩ : ∃ K, (decodeGo (a0.extract 0 a0.size)).2 = K := ⟨_, rfl⟩
  have hKs : 0 + K ≤ a0.size := by
    have := dec_size (a0.extract 0 a0.size)
    simp at this
    rw [← hK]; simpa using this
  have hw0 : wsn0 a0 = wsnB a0 (0 + K) cp := by unfold wsn0; rw [hcp, hK]
  rw [hcp, hK] at h2
  have c38 : v2.cell? ⟨w.heap.size, 38, none⟩ = some (.int .u16 0) := by rw [hst.cells 38 (by omega) (by omega) (by omega) (by omega), HCC.out, lexC_38]
  have c39 : v2.cell? ⟨w.heap.size, 39, none⟩ = some (.int .u8 0) := by rw [hst.cells 39 (by omega) (by omega) (by omega) (by omega), HCC.out, lexC_39]
  have c40 : v2.cell? ⟨w.heap.size, 40, none⟩ = some (.int .u8 0) := by rw [hst.cells 40 (by omega) (by omega) (by omega) (by omega), HCC.out, lexC_40]
  have HB2 := Lib.hid (HB0.out.trans (stepped_below hst (by simp) (Nat.le_refl _)))
  have H2 := Lib.hid h2; have HW0 := Lib.hid hw0; have HCP := Lib.hid hcp; have HK := Lib.hid hK
  obtain ⟨l, c10, c32, c33, c35, c36, c37, fz⟩ := h2
  clear hw0 hcp hK hst HCL HCC
  go_wp2_with (first | (go_at_call 26; refine (cp26 _ _ _ c35).mono ?_; rintro e v3 ⟨rfl, h⟩; obtain rfl := h.symm; clear h) | (go_at_call 27; refine (cur27 _ _ _ c33).mono ?_; rintro e v3 ⟨rfl, h⟩; obtain rfl := h.symm; clear h))
  obtain ⟨v3, hv3⟩ : ∃ v3, v2.alloc (.cells #[.int .i32 0, .int .i32 0, .int .u16 0, .int .u8 0, .int .u8 0] 71) = v3 := ⟨_, rfl⟩
  have hb3 : Below v2.heap.size v2 v3 := by rw [← hv3]; exact (Below.refl _ _).alloc (Nat.le_refl _) _
  have ht3 : v3.heap[v2.heap.size]? = some (.cells #[.int .i32 0, .int .i32 0, .int .u16 0, .int .u8 0, .int .u8 0] 71) := by
    rw [← hv3]; show (v2.heap.push _)[v2.heap.size]? = _; simp
  have t3 : ∀ i, v3.cell? ⟨v2.heap.size, i, none⟩ = (#[.int .i32 0, .int .i32 0, .int .u16 0, .int .u8 0, .int .u8 0] : Array Value)[i]? := fun i => by
    simp only [World.cell?, ht3]; rfl
  have t0 := t3 0; have t1 := t3 1; have t2 := t3 2; have t4 := t3 3; have t5 := t3 4
  rw [hv3]
  have H3 := Lib.hid (H2.out.keep hb3)
  have e38 : v3.cell? ⟨w.heap.size, 38, none⟩ = some (.int .u16 0) := by rw [hb3.cell l]; exact c38
  have e39 : v3.cell? ⟨w.heap.size, 39, none⟩ = some (.int .u8 0) := by rw [hb3.cell l]; exact c39
  have e40 : v3.cell? ⟨w.heap.size, 40, none⟩ = some (.int .u8 0) := by rw [hb3.cell l]; exact c40
  have HB3 := Lib.hid (HB2.out.trans (hb3.mono HB2.out.size))
  clear t3 ht3 hv3 hb3 c10 c32 c33 c35 c36 c37 fz c38 c39 c40
  obtain ⟨l3, c10, c32, c33, c35, c36, c37, fz⟩ := H3.out
  obtain ⟨A, hA⟩ : ∃ A, wsnB a0 (0 + K) cp = A := ⟨_, rfl⟩
  have HA := Lib.hid hA; clear hA
  have HW := Lib.hid (wsn28 _ _ A (Lib.hid (by rw [← HA.out]; exact wsn_any _ _ a0 _ _ _ _ _ H3.out hKs (by omega))))
  cases A
  · have HA7' := Lib.hid (show wsn0 a0 = false from HW0.out.trans HA.out)
    go_wp2_with (go_at_call 28; refine (HW.out).mono ?_; rintro e v4 ⟨rfl, h⟩; obtain rfl := h.symm; clear h)
    go_quiet (first | (go_at_call 26; refine Calls.quiet_of_same (cp26 _ _ _ c35)) | (go_at_call 27; refine Calls.quiet_of_same (cur27 _ _ _ c33)))
    have HW2 := Lib.hid (wsn28 _ _ false (Lib.hid (by rw [← HA.out]; exact wsn_any _ _ a0 _ _ _ _ _ (H3.out.keep (below_drewN v3 _ nq)) hKs (by omega))))
    by_cases h3 : 3 < a0.size
    · have HTS := Lib.hid (show (a0.extract 0 3).size ≤ 1048576 by simp; omega)
      have HA7 := Lib.hid (show wsn0 (a0.extract 0 3) = false by rw [wsn0_local a0 h3]; exact HA7'.out)
      clear c10 c32 c33 c35 c36 c37 fz t0 t1 t2 t4 t5 e38 e39 e40 l3 l
      go_wp2_with fail
      refine (HW2.out).mono ?_
      rintro e v4 ⟨rfl, h⟩
      obtain rfl := h.symm
      clear h
      dsimp only
      have e3 : (3 : Int) < a0.size := by omega
      go_wp2_with fail
      refine (newl_any _ _).mono ?_
      rintro e v5 ⟨rfl, rfl⟩
      obtain ⟨W5, hW5⟩ : ∃ W5, (v3.drewN nq) = W5 := ⟨_, rfl⟩
      rw [hW5]
      have hb5 : Below w.heap.size w W5 := by rw [← hW5]; exact HB3.out.trans (below_drewN _ _ _)
      have hb6 : Below w.heap.size w (W5.alloc (.cells (lexC (a0.extract 0 3) 0) 73)) := hb5.alloc hb5.size _
      have HT6 := Lib.hid (tabs_below hT hb6)
      have HCL6 := Lib.hid (CL.new W5 (a0.extract 0 3) 0)
      have HB6 := Lib.hid hb6
      have HS5 := Lib.hid hb5.size
      clear hb5 hb6 hW5
      go_wp2_with fail
      refine (step25 _ _ _ (Lib.hid (step_any _ _ (a0.extract 0 3) 0 0 0 0 0 HCL6.out HT6.out (by omega) HTS.out (by omega) (by omega) (by omega) (by omega)))).mono ?_
      rintro e v7 ⟨rfl, h7, hst⟩
      have HB7 := Lib.hid (HB6.out.trans (stepped_below hst (by have := HS5.out; simp; omega) HS5.out))
      have H7 := Lib.hid h7
      clear h7 hst
      have hK7 : 0 + (decodeGo ((a0.extract 0 3).extract 0 (a0.extract 0 3).size)).2 ≤ (a0.extract 0 3).size := by
        have := dec_size ((a0.extract 0 3).extract 0 (a0.extract 0 3).size)
        simp at this
        simpa using this
      have HW7 := Lib.hid (wsn28 _ _ false (Lib.hid (by rw [← HA7.out]; exact wsn_any _ _ (a0.extract 0 3) _ _ _ _ _ H7.out hK7 HTS.out)))
      clear hK7
      go_wp2_with fail
      refine (HW7.out).mono ?_
      rintro e v4 ⟨rfl, h⟩
      obtain rfl := h.symm
      clear h
      go_wp2_with fail
      go_ret
      exact ⟨rfl, HB7.out⟩
    · have HTS := Lib.hid (show a0.size ≤ 1048576 by omega)
      have HA7 := Lib.hid HA7'.out
      clear c10 c32 c33 c35 c36 c37 fz t0 t1 t2 t4 t5 e38 e39 e40 l3 l
      go_wp2_with fail
      refine (HW2.out).mono ?_
      rintro e v4 ⟨rfl, h⟩
      obtain rfl := h.symm
      clear h
      dsimp only
      have e3 : ¬ (3 : Int) < a0.size := by omega
      go_wp2_with fail
      refine (newl_any _ _).mono ?_
      rintro e v5 ⟨rfl, rfl⟩
      obtain ⟨W5, hW5⟩ : ∃ W5, (v3.drewN nq) = W5 := ⟨_, rfl⟩
      rw [hW5]
      have hb5 : Below w.heap.size w W5 := by rw [← hW5]; exact HB3.out.trans (below_drewN _ _ _)
      have hb6 : Below w.heap.size w (W5.alloc (.cells (lexC a0 0) 73)) := hb5.alloc hb5.size _
      have HT6 := Lib.hid (tabs_below hT hb6)
      have HCL6 := Lib.hid (CL.new W5 a0 0)
      have HB6 := Lib.hid hb6
      have HS5 := Lib.hid hb5.size
      clear hb5 hb6 hW5
      go_wp2_with fail
      refine (step25 _ _ _ (Lib.hid (step_any _ _ a0 0 0 0 0 0 HCL6.out HT6.out (by omega) HTS.out (by omega) (by omega) (by omega) (by omega)))).mono ?_
      rintro e v7 ⟨rfl, h7, hst⟩
      have HB7 := Lib.hid (HB6.out.trans (stepped_below hst (by have := HS5.out; simp; omega) HS5.out))
      have H7 := Lib.hid h7
      clear h7 hst
      have hK7 : 0 + (decodeGo (a0.extract 0 a0.size)).2 ≤ a0.size := by
        have := dec_size (a0.extract 0 a0.size)
        simp at this
        simpa using this
      have HW7 := Lib.hid (wsn28 _ _ false (Lib.hid (by rw [← HA7.out]; exact wsn_any _ _ a0 _ _ _ _ _ H7.out hK7 HTS.out)))
      clear hK7
      go_wp2_with fail
      refine (HW7.out).mono ?_
      rintro e v4 ⟨rfl, h⟩
      obtain rfl := h.symm
      clear h
      go_wp2_with fail
      go_ret
      exact ⟨rfl, HB7.out⟩
  · have HA7' := Lib.hid (show wsn0 a0 = true from HW0.out.trans HA.out)
    go_wp2_with (go_at_call 28; refine (HW.out).mono ?_; rintro e v4 ⟨rfl, h⟩; obtain rfl := h.symm; clear h)
    go_quiet (first | (go_at_call 26; refine Calls.quiet_of_same (cp26 _ _ _ c35)) | (go_at_call 27; refine Calls.quiet_of_same (cur27 _ _ _ c33)))
    have HW2 := Lib.hid (wsn28 _ _ true (Lib.hid (by rw [← HA.out]; exact wsn_any _ _ a0 _ _ _ _ _ (H3.out.keep (below_drewN v3 _ nq)) hKs (by omega))))
    by_cases h3 : 3 < a0.size
    · have HTS := Lib.hid (show (a0.extract 0 3).size ≤ 1048576 by simp; omega)
      have HA7 := Lib.hid (show wsn0 (a0.extract 0 3) = true by rw [wsn0_local a0 h3]; exact HA7'.out)
      clear c10 c32 c33 c35 c36 c37 fz t0 t1 t2 t4 t5 e38 e39 e40 l3 l
      go_wp2_with fail
      refine (HW2.out).mono ?_
      rintro e v4 ⟨rfl, h⟩
      obtain rfl := h.symm
      clear h
      dsimp only
      have e3 : (3 : Int) < a0.size := by omega
      go_wp2_with fail
      refine (newl_any _ _).mono ?_
      rintro e v5 ⟨rfl, rfl⟩
      obtain ⟨W5, hW5⟩ : ∃ W5, (v3.drewN nq) = W5 := ⟨_, rfl⟩
      rw [hW5]
      have hb5 : Below w.heap.size w W5 := by rw [← hW5]; exact HB3.out.trans (below_drewN _ _ _)
      have hb6 : Below w.heap.size w (W5.alloc (.cells (lexC (a0.extract 0 3) 0) 73)) := hb5.alloc hb5.size _
      have HT6 := Lib.hid (tabs_below hT hb6)
      have HCL6 := Lib.hid (CL.new W5 (a0.extract 0 3) 0)
      have HB6 := Lib.hid hb6
      have HS5 := Lib.hid hb5.size
      clear hb5 hb6 hW5
      go_wp2_with fail
      refine (step25 _ _ _ (Lib.hid (step_any _ _ (a0.extract 0 3) 0 0 0 0 0 HCL6.out HT6.out (by omega) HTS.out (by omega) (by omega) (by omega) (by omega)))).mono ?_
      rintro e v7 ⟨rfl, h7, hst⟩
      have HB7 := Lib.hid (HB6.out.trans (stepped_below hst (by have := HS5.out; simp; omega) HS5.out))
      have H7 := Lib.hid h7
      clear h7 hst
      have hK7 : 0 + (decodeGo ((a0.extract 0 3).extract 0 (a0.extract 0 3).size)).2 ≤ (a0.extract 0 3).size := by
        have := dec_size ((a0.extract 0 3).extract 0 (a0.extract 0 3).size)
        simp at this
        simpa using this
      have HW7 := Lib.hid (wsn28 _ _ true (Lib.hid (by rw [← HA7.out]; exact wsn_any _ _ (a0.extract 0 3) _ _ _ _ _ H7.out hK7 HTS.out)))
      clear hK7
      go_wp2_with fail
      refine (HW7.out).mono ?_
      rintro e v4 ⟨rfl, h⟩
      obtain rfl := h.symm
      clear h
      go_wp2_with fail
      go_ret
      exact ⟨rfl, HB7.out⟩
    · have HTS := Lib.hid (show a0.size ≤ 1048576 by omega)
      have HA7 := Lib.hid HA7'.out
      clear c10 c32 c33 c35 c36 c37 fz t0 t1 t2 t4 t5 e38 e39 e40 l3 l
      go_wp2_with fail
      refine (HW2.out).mono ?_
      rintro e v4 ⟨rfl, h⟩
      obtain rfl := h.symm
      clear h
      dsimp only
      have e3 : ¬ (3 : Int) < a0.size := by omega
      go_wp2_with fail
      refine (newl_any _ _).mono ?_
      rintro e v5 ⟨rfl, rfl⟩
      obtain ⟨W5, hW5⟩ : ∃ W5, (v3.drewN nq) = W5 := ⟨_, rfl⟩
      rw [hW5]
      have hb5 : Below w.heap.size w W5 := by rw [← hW5]; exact HB3.out.trans (below_drewN _ _ _)
      have hb6 : Below w.heap.size w (W5.alloc (.cells (lexC a0 0) 73)) := hb5.alloc hb5.size _
      have HT6 := Lib.hid (tabs_below hT hb6)
      have HCL6 := Lib.hid (CL.new W5 a0 0)
      have HB6 := Lib.hid hb6
      have HS5 := Lib.hid hb5.size
      clear hb5 hb6 hW5
      go_wp2_with fail
      refine (step25 _ _ _ (Lib.hid (step_any _ _ a0 0 0 0 0 0 HCL6.out HT6.out (by omega) HTS.out (by omega) (by omega) (by omega) (by omega)))).mono ?_
      rintro e v7 ⟨rfl, h7, hst⟩
      have HB7 := Lib.hid (HB6.out.trans (stepped_below hst (by have := HS5.out; simp; omega) HS5.out))
      have H7 := Lib.hid h7
      clear h7 hst
      have hK7 : 0 + (decodeGo (a0.extract 0 a0.size)).2 ≤ a0.size := by
        have := dec_size (a0.extract 0 a0.size)
        simp at this
        simpa using this
      have HW7 := Lib.hid (wsn28 _ _ true (Lib.hid (by rw [← HA7.out]; exact wsn_any _ _ a0 _ _ _ _ _ H7.out hK7 HTS.out)))
      clear hK7
      go_wp2_with fail
      refine (HW7.out).mono ?_
      rintro e v4 ⟨rfl, h⟩
      obtain rfl := h.symm
      clear h
      go_wp2_with fail
      go_ret
      exact ⟨rfl, HB7.out⟩
end Go.Proofs.YtkhcbbpkppkgjaaDoor
