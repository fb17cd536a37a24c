/-
  The small functions around a builder.
-/
import Derived.Test.YtlplikpjnocdfaaDoorA9
namespace Go.Proofs.YtlplikpjnocdfaaDoor
open Go.ChangeShapes Go.WideShapes Go.ChangeAt Go.RowKit
set_option linter.unusedVariables false
@[go_sem] theorem mk54 (w : World) : (Instr.makeMap 54 none).run Tryd.prog w = .ok (.map (some w.heap.size)) (w.alloc (.map #[] 0)) := rfl
section
variable {w : World} {k : Nat} {m v : Value} {g c s l o n : Int} {h : Bool} {lu gc fn : Int} {hp ls : Bool}
set_option maxRecDepth 100000 in
theorem hp16 (b : Bd w k m v g c s l o n h lu gc fn hp ls) : Calls Tryd.prog 16 #[.pointer (some ⟨k, 0, none⟩)] w fun e w' => e = .returned (.bool hp) ∧ w' = w := by
  obtain ⟨y1, y6, y7, y8, y9, y10, y11, y12, y13, y14, y17, y18, y20, y21, yf⟩ := b.cells
  go_enter Tryd.func16, Tryd.ntmps16
  go_wp2_with fail
  go_ret
  exact ⟨rfl, rfl⟩
set_option maxRecDepth 100000 in
theorem gc24 (b : Bd w k m v g c s l o n h lu gc fn hp ls) : Calls Tryd.prog 24 #[.pointer (some ⟨k, 0, none⟩)] w fun e w' => e = .returned (.int .i64 gc) ∧ w' = w := by
  obtain ⟨y1, y6, y7, y8, y9, y10, y11, y12, y13, y14, y17, y18, y20, y21, yf⟩ := b.cells
  go_enter Tryd.func24, Tryd.ntmps24
  go_wp2_with fail
  go_ret
  exact ⟨rfl, rfl⟩
set_option maxRecDepth 100000 in
theorem lu25 (b : Bd w k m v g c s l o n h lu gc fn hp ls) : Calls Tryd.prog 25 #[.pointer (some ⟨k, 0, none⟩)] w fun e w' => e = .returned (.int .i64 lu) ∧ w' = w := by
  obtain ⟨y1, y6, y7, y8, y9, y10, y11, y12, y13, y14, y17, y18, y20, y21, yf⟩ := b.cells
  go_enter Tryd.func25, Tryd.ntmps25
  go_wp2_with fail
  go_ret
  exact ⟨rfl, rfl⟩
set_option maxRecDepth 100000 in
theorem ls26 (b : Bd w k m v g c s l o n h lu gc fn hp ls) : Calls Tryd.prog 26 #[.pointer (some ⟨k, 0, none⟩)] w fun e w' => e = .returned (.bool ls) ∧ w' = w := by
  obtain ⟨y1, y6, y7, y8, y9, y10, y11, y12, y13, y14, y17, y18, y20, y21, yf⟩ := b.cells
  go_enter Tryd.func26, Tryd.ntmps26
  go_wp2_with fail
  go_ret
  exact ⟨rfl, rfl⟩
set_option maxRecDepth 100000 in
theorem sm12 (b : Bd w k m v g c s l o n h lu gc fn hp ls) {B : Nat} {xs : List Int} (hO : OwnB w B v xs) : Calls Tryd.prog 12 #[.pointer (some ⟨k, 0, none⟩)] w fun e w' => e = .returned v ∧ w' = w := by
  obtain ⟨pp, cp, hv, _, _⟩ := hO.bytes
  obtain ⟨N, hN⟩ : ∃ N, xs.length = N := ⟨_, rfl⟩
  rw [hN] at hv
  subst hv
  clear hN hO
  obtain ⟨y1, y6, y7, y8, y9, y10, y11, y12, y13, y14, y17, y18, y20, y21, yf⟩ := b.cells
  go_enter Tryd.func12, Tryd.ntmps12
  go_wp2_with fail
  go_ret
  exact ⟨rfl, rfl⟩
set_option maxRecDepth 100000 in
theorem ps17 (b : Bd w k m v g c s l o n h lu gc fn hp ls) : Calls Tryd.prog 17 #[.pointer (some ⟨k, 0, none⟩)] w fun e w' => e = .returned (.agg (stV g c s l o n h)) ∧ Below w.heap.size w w' := by
  obtain ⟨y1, y6, y7, y8, y9, y10, y11, y12, y13, y14, y17, y18, y20, y21, yf⟩ := b.cells
  have hk := b.lt
  go_enter Tryd.func17, Tryd.ntmps17
  go_wp2_with fail
  refine bodyPost_ret (results_cell_row rfl _ _ w.heap.size 32 (stV g c s l o n h) (0, 0) _ rfl ?_ Tryd.underlying32 rfl (by kernel_rfl)) rfl ⟨rfl, (Below.refl _ _).alloc (Nat.le_refl _) _⟩
  exact heap_alloc_new w (.cells (stV g c s l o n h) 32)
set_option maxRecDepth 100000 in
theorem fn18 (b : Bd w k m v g c s l o n h lu gc fn hp ls) : Calls Tryd.prog 18 #[.pointer (some ⟨k, 0, none⟩)] w fun e w' => e = .returned (if fn = 0 then .tuple #[.int .u32 0, .bool false] else .tuple #[.int .u32 (flp fn), .bool true]) ∧ Below w.heap.size w w' := by
  obtain ⟨y1, y6, y7, y8, y9, y10, y11, y12, y13, y14, y17, y18, y20, y21, yf⟩ := b.cells
  have hk := b.lt
  have HB := Lib.hid b
  by_cases hf : fn = 0
  · subst hf
    rw [if_pos rfl]
    go_enter Tryd.func18, Tryd.ntmps18
    go_wp2_with fail
    refine (iv30 0 w).mono ?_
    rintro e w3 ⟨rfl, hb3⟩
    have HB3 := Lib.hid hb3
    clear hb3
    dsimp only
    go_wp2_with fail
    go_ret2
    exact ⟨rfl, HB3.out⟩
  · have hfb : (fn != 0) = true := by simp [hf]
    rw [if_neg hf]
    clear hf
    go_enter Tryd.func18, Tryd.ntmps18
    go_wp2_with fail
    refine (iv30 fn w).mono ?_
    rintro e w3 ⟨rfl, hb3⟩
    have q := hb3.cell (p := ⟨k, 17, none⟩) hk
    rw [y17] at q
    have HB3 := Lib.hid hb3
    clear hb3
    dsimp only
    go_wp2_with fail
    refine (gi31 fn w3).mono ?_
    rintro e w4 ⟨rfl, hb4⟩
    have HB4 := Lib.hid (HB3.out.trans (hb4.mono HB3.out.size))
    clear hb4
    dsimp only
    go_wp2_with fail
    go_ret2
    exact ⟨rfl, HB4.out⟩
end
abbrev bdZ : Array Value :=
  #[.pointer none, .slice none 0 0, .slice none 0 0, .map none, .slice none 0 0, .string ⟨#[]⟩, .int .i64 0, .int .i64 0, .int .i64 0, .int .i64 0, .int .i64 0, .int .i64 0, .bool false, .int .i64 0, .int .i64 0, .int .i64 0, .int .i32 0, .int .u32 0, .bool false, .bool false, .bool false, .bool false]
abbrev bdN (m : Value) : Array Value := bdV m (.slice none 0 0) 0 0 0 0 0 0 false 0 0 0 false false
set_option maxRecDepth 100000 in
theorem mk27 (w : World) : Calls Tryd.prog 27 #[.pointer none, .slice none 0 0, .bool false] w fun e w' => e = .returned (.agg (bdN (.map (some (w.heap.size + 1))))) ∧ Below w.heap.size w w' := by
  have hb : Below w.heap.size w ((w.alloc (.cells bdZ 61)).alloc (.map #[] 0)) := ((Below.refl _ _).alloc (Nat.le_refl _) _).alloc (by simp) _
  have hz : ((w.alloc (.cells bdZ 61)).alloc (.map #[] 0)).heap[w.heap.size]? = some (.cells bdZ 61 (0, 0)) := by
    rw [heap_alloc_old _ _ (by simp)]; exact heap_alloc_new w (.cells bdZ 61)
  have HB := Lib.hid hb; have HZ := Lib.hid hz
  clear hb hz
  go_enter Tryd.func27, Tryd.ntmps27
  go_wp2_with (first | (refine wpList_buildTo rfl 61 #[(0, .tmp 7), (10, .tmp 8), (4, .tmp 9), (13, .tmp 10), (3, .tmp 11), (15, .tmp 13)] rfl (some 14) rfl (bdN (.map (some (w.heap.size + 1)))) (by kernel_rfl) ?_) | (refine wpList_store_rowTo rfl 61 (.tmp 6) (.tmp 14) rfl rfl w.heap.size (bdN (.map (some (w.heap.size + 1)))) rfl rfl 61 bdZ HZ.out (by kernel_rfl) rfl (by kernel_rfl) ?_))
  refine bodyPost_ret (results_cell_row rfl _ _ w.heap.size 61 (bdN (.map (some (w.heap.size + 1)))) (0, 0) _ rfl (setRow_heap _ _ _ _ _ _ HZ.out) Tryd.underlying61 rfl (by kernel_rfl)) rfl ⟨rfl, below_setRow HB.out (Nat.le_refl _) _⟩
/-- a fresh builder -/
theorem nb9 (w : World) : Calls Tryd.prog 9 #[.bool false] w fun e w' => ∃ k m, e = .returned (.pointer (some ⟨k, 0, none⟩)) ∧ Bd w' k m (.slice none 0 0) 0 0 0 0 0 0 false 0 0 0 false false ∧ w.heap.size ≤ k ∧ Below w.heap.size w w' := by
  have H27 := Lib.hid (mk27 w)
  obtain ⟨q, hM⟩ : ∃ q, w.heap.size + 1 = q := ⟨_, rfl⟩
  rw [hM] at H27
  clear hM
  go_enter Tryd.func9, Tryd.ntmps9
  go_wp2_with fail
  refine (H27.out).mono ?_
  rintro e w1 ⟨rfl, hb⟩
  have HZ := Lib.hid (show (w1.alloc (.cells bdZ 61)).heap[w1.heap.size]? = some (.cells bdZ 61 (0, 0)) from heap_alloc_new w1 (.cells bdZ 61))
  have HB := Lib.hid (hb.alloc hb.size (.cells bdZ 61)); have HS := Lib.hid hb.size
  clear hb H27
  dsimp only
  go_wp2_with (refine wpList_store_rowTo rfl 61 (.tmp 3) (.tmp 5) rfl rfl w1.heap.size (bdN (.map (some q))) rfl rfl 61 bdZ HZ.out (by kernel_rfl) rfl (by kernel_rfl) ?_)
  go_ret
  exact ⟨_, _, rfl, setRow_heap _ _ _ _ _ _ HZ.out, HS.out, below_setRow HB.out HS.out _⟩
end Go.Proofs.YtlplikpjnocdfaaDoor
