/-
  The walk of FnRangeOfIdentifierEscapeFreeIsNameRun.
-/
import Derived.Test.YtkhcbbpkppkgjaaDoorH12
namespace Go.Proofs.YtkhcbbpkppkgjaaDoor
open Go.ChangeShapes Go.WideShapes Go.ChangeAt Go.RowKit
open Go.Lib (decodeN decode_at decodeGo)
set_option linter.unusedVariables false
set_option maxRecDepth 100000 in
set_option maxHeartbeats 4000000 in
/-- at the end of the text -/
theorem roi37_end (s : ByteArray) (hs : s.size ≤ 1048576) (w : World) :
    Calls Tryd.prog 37 #[.agg (srcC s), .agg #[.int .i32 s.size]] w fun e w' => e = .returned (.agg #[.int .i32 s.size, .int .i32 0]) ∧ Below w.heap.size w w' := by
  obtain ⟨f, hf⟩ : ∃ f, s.size = f := ⟨_, rfl⟩
  rw [hf]
  have hc3 : (((w.alloc (Obj.cells (srcC s) 57)).alloc (Obj.cells #[Value.int IntKind.i32 ↑f] 61)).alloc (Obj.cells #[Value.int IntKind.i32 0, Value.int IntKind.i32 0] 63)).cell? ⟨w.heap.size, 3, none⟩ = some (.string s) := by
    have h : (((w.alloc (Obj.cells (srcC s) 57)).alloc (Obj.cells #[Value.int IntKind.i32 ↑f] 61)).alloc (Obj.cells #[Value.int IntKind.i32 0, Value.int IntKind.i32 0] 63)).heap[w.heap.size]? = some (.cells (srcC s) 57) := by
      show (((w.heap.push _).push _).push _)[w.heap.size]? = _
      simp [Array.getElem?_push]
      omega
    simp only [World.cell?, h]
    exact srcC_3 s
  have hl2 : (((w.alloc (Obj.cells (srcC s) 57)).alloc (Obj.cells #[Value.int IntKind.i32 ↑f] 61)).alloc (Obj.cells #[Value.int IntKind.i32 0, Value.int IntKind.i32 0] 63)).heap[w.heap.size + 1 + 1]? = some (.cells #[Value.int IntKind.i32 0, Value.int IntKind.i32 0] 63) := by
    have := heap_alloc_new ((w.alloc (Obj.cells (srcC s) 57)).alloc (Obj.cells #[Value.int IntKind.i32 ↑f] 61)) (Obj.cells #[Value.int IntKind.i32 0, Value.int IntKind.i32 0] 63)
    rw [show ((w.alloc (Obj.cells (srcC s) 57)).alloc (Obj.cells #[Value.int IntKind.i32 ↑f] 61)).heap.size = w.heap.size + 1 + 1 by simp] at this
    exact this
  have hb0 : Below w.heap.size w (((w.alloc (Obj.cells (srcC s) 57)).alloc (Obj.cells #[Value.int IntKind.i32 ↑f] 61)).alloc (Obj.cells #[Value.int IntKind.i32 0, Value.int IntKind.i32 0] 63)) := (((Below.refl _ _).alloc (Nat.le_refl _) _).alloc (by simp) _).alloc (by simp; omega) _
  have HL2 := Lib.hid hl2; have HB0 := Lib.hid hb0
  clear hl2 hb0
  go_enter Tryd.func37, Tryd.ntmps37
  go_wp2_with fail
  (try simp only [Exit.inBlock, Exit.then])
  refine bodyPost_ret (results_cell_row rfl _ _ (w.heap.size + 1 + 1) 63 #[.int .i32 f, .int .i32 0] (0, 0) _ rfl ?_ Tryd.underlying63 rfl (by kernel_rfl)) rfl ⟨rfl, (((Below.refl _ _).alloc (Nat.le_refl _) _).alloc (by simp) _).alloc (by simp; omega) _⟩
  have := heap_alloc_new ((w.alloc (Obj.cells (srcC s) 57)).alloc (Obj.cells #[Value.int IntKind.i32 ↑f] 61)) (Obj.cells #[Value.int IntKind.i32 ↑f, Value.int IntKind.i32 0] 63)
  rw [show ((w.alloc (Obj.cells (srcC s) 57)).alloc (Obj.cells #[Value.int IntKind.i32 ↑f] 61)).heap.size = w.heap.size + 1 + 1 by simp] at this
  exact this
set_option maxRecDepth 100000 in
set_option maxHeartbeats 2000000 in
theorem rz20 (s : ByteArray) (f r : Nat) (w : World) (H : Hid (Calls Tryd.prog 37 #[.agg (srcC s), .agg #[.int .i32 f]] w fun e w' => e = .returned (.agg #[.int .i32 f, .int .i32 r]) ∧ Below w.heap.size w w')) :
    Calls Tryd.prog 20 #[.string s, .int .i32 f] w fun e w' => e = .returned (.tuple #[.int .i32 f, .int .i32 r]) ∧ Below w.heap.size w w' := by
  go_enter Tryd.func20, Tryd.ntmps20
  go_wp2_with (refine wpList_buildTo rfl 57 #[(2, .tmp 7)] rfl (some 8) rfl (srcC s) (by kernel_rfl) ?_)
  refine (H.out).mono ?_
  rintro e w1 ⟨rfl, hb⟩
  have HB := Lib.hid hb; clear hb
  go_wp2_with fail
  go_region
  go_wp2
  go_ret2
  exact ⟨rfl, ((HB.out.alloc HB.out.size _).drew)⟩
set_option maxRecDepth 100000 in
set_option maxHeartbeats 4000000 in
theorem FnRangeOfIdentifierEscapeFreeIsNameRun_walk (a0 : ByteArray) (a1 : Int) (w0 : a0.size ≤ maxLen) (w1 : (Lit.int .i32 a1).wf = true) (w : World) (hT : Lib.Utf8Tabs 1 2 w) :
    Calls Tryd.prog 6 #[.string a0, .int .i32 a1] w fun e w' => e = .returned (.bool true) ∧ Below w.heap.size w w' := by
  have hm0 := w0
  unfold maxLen at hm0
  by_cases s0 : 1048576 < a0.size
  · go_enter Tryd.func6, Tryd.ntmps6
    go_wp2_with (first | (go_at_call 17; go_in)); go_ret; exact ⟨rfl, Below.refl _ _⟩
  by_cases c1 : a1 < 0
  · go_enter Tryd.func6, Tryd.ntmps6
    go_wp2_with (first | (go_at_call 17; go_in)); go_ret; exact ⟨rfl, Below.refl _ _⟩
  obtain ⟨f, rfl⟩ := Int.eq_ofNat_of_zero_le (by omega : 0 ≤ a1)
  have hfm : (f : Int) ≤ 2147483647 := by
    have h := w1
    simp only [Lit.wf, Bool.and_eq_true, decide_eq_true_eq] at h
    have e : IntKind.i32.max = 2147483647 := by decide
    omega
  have hw64 : IntKind.i64.wrap (f : Int) = f := by rw [IntKind.wrap_i64]; omega
  have hw64' : wrap64 (f : Int) = f := by unfold wrap64; omega
  by_cases c2 : a0.size < f
  · go_enter Tryd.func6, Tryd.ntmps6
    go_wp2_with (first | (go_at_call 17; go_in)); go_ret; exact ⟨rfl, Below.refl _ _⟩
  have H18 := Lib.hid (fun w => hb18 (a0.extract f a0.size) (by simp; omega) w)
  have H19 := Lib.hid (fun w => nr19 a0 (by omega) f (by omega) w)
  go_enter Tryd.func6, Tryd.ntmps6
  go_wp2_with (first | (go_at_call 17; go_in))
  refine (H18.out _).mono ?_
  rintro e w2 ⟨⟨b, rfl, hb⟩, rfl⟩
  cases b
  · have h92 := Lib.hid (hb rfl)
    clear hb
    go_wp2_with fail
    refine (H19.out _).mono ?_
    rintro e w2 ⟨⟨r, rfl, hr⟩, rfl⟩
    have HR := Lib.hid hr
    have hfit := hr.fits
    clear hr
    by_cases hfl : f < a0.size
    · by_cases hrun : f + r = a0.size
      · have d : ((r : Int) == (a0.size : Int) - (f : Int)) = true := by simp; omega
        go_wp2_with fail
        go_ret
        exact ⟨rfl, Below.refl _ _⟩
      · have d : ((r : Int) == (a0.size : Int) - (f : Int)) = false := by simp; omega
        have hrs : f + r < a0.size := by omega
        have h2 : (a0[f + r]'hrs).toNat ≠ 92 := by
          have := h92.out r (by simp; omega)
          rw [ByteArray.getElem_extract] at this
          exact this
        have HZ := Lib.hid (rz20 a0 f r w (Lib.hid (roi37 a0 f r (by omega) hfl HR.out hrs h2 w hT)))
        clear h2
        go_wp2_with fail
        refine (HZ.out).mono ?_
        rintro e w3 ⟨rfl, hb3⟩
        have HB3 := Lib.hid hb3; clear hb3
        go_wp2_with fail
        go_ret
        exact ⟨ret_bool (by simp), HB3.out⟩
    · obtain rfl : f = a0.size := by omega
      obtain rfl : r = 0 := by omega
      have HZ := Lib.hid (rz20 a0 a0.size 0 w (Lib.hid (roi37_end a0 (by omega) w)))
      go_wp2_with fail
      refine (HZ.out).mono ?_
      rintro e w3 ⟨rfl, hb3⟩
      have HB3 := Lib.hid hb3; clear hb3
      go_wp2_with fail
      go_ret
      exact ⟨rfl, HB3.out⟩
  · go_wp2_with fail
    go_ret
    exact ⟨rfl, Below.refl _ _⟩
end Go.Proofs.YtkhcbbpkppkgjaaDoor
