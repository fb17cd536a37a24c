/-
  RangeOfIdentifier over a run of name bytes; the walk of FnRangeOfIdentifierEscapeFreeIsNameRun.
-/
import Derived.Test.YtkhcbbpkppkgjaaDoorH11
namespace Go.Proofs.YtkhcbbpkppkgjaaDoor
open Go.ChangeShapes Go.WideShapes Go.ChangeAt Go.RowKit
open Go.Lib (decodeN decode_at decodeGo)
set_option linter.unusedVariables false
theorem ext_ext (s : ByteArray) (f i : Nat) (hf : f ≤ s.size) (hi : f + i ≤ s.size) : (s.extract f s.size).extract i (s.extract f s.size).size = s.extract (f + i) s.size := by
  apply ByteArray.ext_getElem
  · simp; omega
  · intro j h1 h2
    rw [ByteArray.getElem_extract, ByteArray.getElem_extract, ByteArray.getElem_extract]
    congr 1
    omega
theorem srcC_3 (s : ByteArray) : (srcC s)[3]? = some (.string s) := by kernel_rfl
set_option maxRecDepth 100000 in
set_option maxHeartbeats 4000000 in
theorem roi37 (s : ByteArray) (f r : Nat) (hs : s.size ≤ 1048576) (hf : f < s.size) (hR : Run s f r) (hr : f + r < s.size) (h92 : (s[f + r]'hr).toNat ≠ 92) (w : World) (hT : Lib.Utf8Tabs 1 2 w) :
    Calls Tryd.prog 37 #[.agg (srcC s), .agg #[.int .i32 f]] w fun e w' => e = .returned (.agg #[.int .i32 f, .int .i32 r]) ∧ Below w.heap.size w w' := by
  have hc3 : (((w.alloc (Obj.cells (srcC s) 57)).alloc (Obj.cells #[Value.int IntKind.i32 ↑f] 61)).alloc (Obj.cells #[Value.int IntKind.i32 0, Value.int IntKind.i32 0] 63)).cell? ⟨w.heap.size, 3, none⟩ = some (.string s) := by
    have h : (((w.alloc (Obj.cells (srcC s) 57)).alloc (Obj.cells #[Value.int IntKind.i32 ↑f] 61)).alloc (Obj.cells #[Value.int IntKind.i32 0, Value.int IntKind.i32 0] 63)).heap[w.heap.size]? = some (.cells (srcC s) 57) := by
      show (((w.heap.push _).push _).push _)[w.heap.size]? = _
      simp [Array.getElem?_push]
      omega
    simp only [World.cell?, h]
    exact srcC_3 s
  have HR := Lib.hid hR; have HF := Lib.hid hf; have HRS := Lib.hid hr
  obtain ⟨x, hx⟩ : ∃ x, s.extract f s.size = x := ⟨_, rfl⟩
  have hxs : x.size = s.size - f := by rw [← hx]; simp
  have HXI := Lib.hid (show ∀ i, i ≤ r → x.extract i (s.size - f) = s.extract (f + i) s.size from fun i hi => by rw [← hxs, ← hx]; exact ext_ext s f i (by omega) (by omega))
  have HXB := Lib.hid (show ∀ k (h : k < x.size), k < r → ncB (x[k]'h).toNat = true from fun k h hk => by
    have := hR.all k (by omega) hk
    subst hx
    rw [ByteArray.getElem_extract]
    exact this)
  have hb0 : Below w.heap.size w (((w.alloc (Obj.cells (srcC s) 57)).alloc (Obj.cells #[Value.int IntKind.i32 ↑f] 61)).alloc (Obj.cells #[Value.int IntKind.i32 0, Value.int IntKind.i32 0] 63)) := (((Below.refl _ _).alloc (Nat.le_refl _) _).alloc (by simp) _).alloc (by simp; omega) _
  have hl1 : (((w.alloc (Obj.cells (srcC s) 57)).alloc (Obj.cells #[Value.int IntKind.i32 ↑f] 61)).alloc (Obj.cells #[Value.int IntKind.i32 0, Value.int IntKind.i32 0] 63)).cell? ⟨w.heap.size + 1, 0, none⟩ = some (.int .i32 f) := by
    have h : (((w.alloc (Obj.cells (srcC s) 57)).alloc (Obj.cells #[Value.int IntKind.i32 ↑f] 61)).alloc (Obj.cells #[Value.int IntKind.i32 0, Value.int IntKind.i32 0] 63)).heap[w.heap.size + 1]? = some (.cells #[Value.int IntKind.i32 ↑f] 61) := by
      rw [heap_alloc_old _ _ (by simp)]
      have := heap_alloc_new (w.alloc (Obj.cells (srcC s) 57)) (Obj.cells #[Value.int IntKind.i32 ↑f] 61)
      rw [show (w.alloc (Obj.cells (srcC s) 57)).heap.size = w.heap.size + 1 by simp] at this
      exact this
    simp only [World.cell?, h]
    rfl
  have hl2 : (((w.alloc (Obj.cells (srcC s) 57)).alloc (Obj.cells #[Value.int IntKind.i32 ↑f] 61)).alloc (Obj.cells #[Value.int IntKind.i32 0, Value.int IntKind.i32 0] 63)).heap[w.heap.size + 1 + 1]? = some (.cells #[Value.int IntKind.i32 0, Value.int IntKind.i32 0] 63) := by
    have := heap_alloc_new ((w.alloc (Obj.cells (srcC s) 57)).alloc (Obj.cells #[Value.int IntKind.i32 ↑f] 61)) (Obj.cells #[Value.int IntKind.i32 0, Value.int IntKind.i32 0] 63)
    rw [show ((w.alloc (Obj.cells (srcC s) 57)).alloc (Obj.cells #[Value.int IntKind.i32 ↑f] 61)).heap.size = w.heap.size + 1 + 1 by simp] at this
    exact this
  have HL2 := Lib.hid hl2; clear hl2
  have HX := Lib.hid hx; have HB0 := Lib.hid hb0; have HL1 := Lib.hid hl1; have HT0 := Lib.hid (tabs_below hT hb0)
  have hfs : f ≤ 1048576 := by omega
  have hrs : r ≤ 1048576 := by omega
  have hrx : r < x.size := by omega
  have dz : (((s.size - f : Nat) : Int) == 0) = false := by simp; omega
  clear hx hb0 hl1 hR hT
  go_enter Tryd.func37, Tryd.ntmps37
  go_wp2_with fail
  rw [HX.out]
  obtain ⟨W0, hW0⟩ : ∃ W0, ((w.alloc (Obj.cells (srcC s) 57)).alloc (Obj.cells #[Value.int IntKind.i32 ↑f] 61)).alloc (Obj.cells #[Value.int IntKind.i32 0, Value.int IntKind.i32 0] 63) = W0 := ⟨_, rfl⟩
  rw [hW0] at HB0 HL1 HT0 HL2
  rw [hW0]
  clear hW0 hc3
  go_loopw [6] (fun a w' => ∃ i : Nat, a = .int .i64 i ∧ i ≤ r ∧ Below W0.heap.size W0 w') (fun a w' => r - (intOf a).toNat)
  case atStart => exact ⟨0, rfl, by omega, Below.refl _ _⟩
  case round =>
    obtain ⟨i, rfl, hir, hbe⟩ := hrel
    have HBE := Lib.hid hbe; clear hbe
    have HTr := Lib.hid (tabs_below HT0.out HBE.out)
    by_cases hlt : i < r
    · obtain ⟨h1, h2, h3⟩ := HR.out.next i hlt HRS.out
      obtain ⟨C, hC⟩ : ∃ C, (decodeGo (s.extract (f + i) s.size)).1 = C := ⟨_, rfl⟩
      obtain ⟨K, hK⟩ : ∃ K, (decodeGo (s.extract (f + i) s.size)).2 = K := ⟨_, rfl⟩
      rw [hC] at h1
      rw [hK] at h2 h3
      have HD := Lib.hid (dec_any (s.extract (f + i) s.size) wr HTr.out C K hC hK)
      have HN := Lib.hid (fun w => nc41 C w)
      rw [h1] at HN
      have HXi := Lib.hid (HXI.out i (by omega))
      clear hC hK h1
      go_wp2_with fail
      rw [HXi.out]
      refine (HD.out).mono ?_
      rintro e w1 ⟨rfl, hb1⟩
      have HB1 := Lib.hid (HBE.out.trans (hb1.mono HBE.out.size)); clear hb1
      go_wp2_with fail
      refine (HN.out _).mono ?_
      rintro e w2 ⟨rfl, rfl⟩
      go_wp2_with fail
      go_roundw
      case rel => exact ⟨i + K, by simp, by omega, HB1.out⟩
      case measure => simp only [intOf]; omega
    · obtain rfl : i = r := by omega
      obtain ⟨e1, e2⟩ := HR.out.end HRS.out
      obtain ⟨b, hb⟩ : ∃ b, (s[f + i]'HRS.out).toNat = b := ⟨_, rfl⟩
      rw [hb] at e1 e2 h92
      have HD := Lib.hid (dec_any (s.extract (f + i) s.size) wr HTr.out b 1 (by rw [e1]) (by rw [e1]))
      have HN := Lib.hid (fun w => nc41 b w)
      rw [e2] at HN
      have HXi := Lib.hid (HXI.out i (by omega))
      have d : ((b : Int) == 92) = false := by simp; omega
      clear e1 e2 hb h92
      by_cases h0 : i = 0
      · subst h0
        go_wp2_with fail
        rw [HXi.out]
        refine (HD.out).mono ?_
        rintro e w1 ⟨rfl, hb1⟩
        have HB1 := Lib.hid (HBE.out.trans (hb1.mono HBE.out.size)); clear hb1
        have hlo : w1.cell? ⟨w.heap.size + 1, 0, none⟩ = some (.int .i32 f) := by rw [HB1.out.cell (block_lt_of_cell HL1.out)]; exact HL1.out
        have hrb : w1.heap[w.heap.size + 1 + 1]? = some (.cells #[Value.int IntKind.i32 0, Value.int IntKind.i32 0] 63) := by
          rw [HB1.out.block _ (Array.getElem?_eq_some_iff.1 HL2.out).1]; exact HL2.out
        have r0 : w1.cell? ⟨w.heap.size + 1 + 1, 0, none⟩ = some (.int .i32 0) := by simp only [World.cell?, hrb]; rfl
        have r1 : w1.cell? ⟨w.heap.size + 1 + 1, 1, none⟩ = some (.int .i32 0) := by simp only [World.cell?, hrb]; rfl
        have rf0 : w1.frozen? ⟨w.heap.size + 1 + 1, 0, none⟩ = false := by simp [World.frozen?, hrb]
        have rf1 : w1.frozen? ⟨w.heap.size + 1 + 1, 1, none⟩ = false := by simp [World.frozen?, hrb]
        have HRB := Lib.hid hrb; clear hrb
        go_wp2_with fail
        refine (HN.out _).mono ?_
        rintro e w2 ⟨rfl, rfl⟩
        go_wp2_with fail
        (try simp only [Exit.inBlock, Exit.then])
        refine bodyPost_ret (results_cell_row rfl _ _ (w.heap.size + 1 + 1) 63 #[.int .i32 f, .int .i32 (0 : Nat)] (0, 0) _ rfl ?_ Tryd.underlying63 rfl (by kernel_rfl)) rfl ⟨rfl, ((HB0.out.trans (HB1.out.mono HB0.out.size)).setCell (by simp; omega) _).setCell (by simp; omega) _⟩
        rw [heap_setCell_same _ _ 1 #[.int .i32 f, .int .i32 0] 63 _ (by rw [heap_setCell_same _ _ 0 #[.int .i32 0, .int .i32 0] 63 _ HRB.out]; rfl)]
        rfl
      · have hk : i - 1 < x.size := by omega
        have hwx : wrap32 ((x[i - 1]'hk).toNat : Int) = ((x[i - 1]'hk).toNat : Int) := by have := (x[i - 1]'hk).toNat_lt; unfold wrap32; omega
        have HWS := Lib.hid (fun w => ws43 (x[i - 1]'hk).toNat (HXB.out (i - 1) hk (by omega)) w)
        go_wp2_with fail
        rw [HXi.out]
        refine (HD.out).mono ?_
        rintro e w1 ⟨rfl, hb1⟩
        have HB1 := Lib.hid (HBE.out.trans (hb1.mono HBE.out.size)); clear hb1
        have hlo : w1.cell? ⟨w.heap.size + 1, 0, none⟩ = some (.int .i32 f) := by rw [HB1.out.cell (block_lt_of_cell HL1.out)]; exact HL1.out
        have hrb : w1.heap[w.heap.size + 1 + 1]? = some (.cells #[Value.int IntKind.i32 0, Value.int IntKind.i32 0] 63) := by
          rw [HB1.out.block _ (Array.getElem?_eq_some_iff.1 HL2.out).1]; exact HL2.out
        have r0 : w1.cell? ⟨w.heap.size + 1 + 1, 0, none⟩ = some (.int .i32 0) := by simp only [World.cell?, hrb]; rfl
        have r1 : w1.cell? ⟨w.heap.size + 1 + 1, 1, none⟩ = some (.int .i32 0) := by simp only [World.cell?, hrb]; rfl
        have rf0 : w1.frozen? ⟨w.heap.size + 1 + 1, 0, none⟩ = false := by simp [World.frozen?, hrb]
        have rf1 : w1.frozen? ⟨w.heap.size + 1 + 1, 1, none⟩ = false := by simp [World.frozen?, hrb]
        have HRB := Lib.hid hrb; clear hrb
        go_wp2_with fail
        refine (HN.out _).mono ?_
        rintro e w2 ⟨rfl, rfl⟩
        go_wp2_with fail
        rw [hwx]
        refine (HWS.out _).mono ?_
        rintro e w2 ⟨rfl, rfl⟩
        go_wp2_with fail
        (try simp only [Exit.inBlock, Exit.then])
        refine bodyPost_ret (results_cell_row rfl _ _ (w.heap.size + 1 + 1) 63 #[.int .i32 f, .int .i32 i] (0, 0) _ rfl ?_ Tryd.underlying63 rfl (by kernel_rfl)) rfl ⟨rfl, ((HB0.out.trans (HB1.out.mono HB0.out.size)).setCell (by simp; omega) _).setCell (by simp; omega) _⟩
        rw [heap_setCell_same _ _ 1 #[.int .i32 f, .int .i32 0] 63 _ (by rw [heap_setCell_same _ _ 0 #[.int .i32 0, .int .i32 0] 63 _ HRB.out]; rfl)]
        rfl
end Go.Proofs.YtkhcbbpkppkgjaaDoor
