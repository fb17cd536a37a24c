/-
  zzMappings: a fresh table of mappings, its lines and columns out of the two rows.
-/
import Derived.Test.YtnhefnccjlbeiaaG1
namespace Go.Proofs.Ytnhefnccjlbeiaa
open Go.ChangeShapes Go.WideShapes Go.ChangeAt Go.RowKit
set_option linter.unusedVariables false
abbrev mapZ : Array Value := #[.int .i32 0, .int .i32 0, .int .i32 0, .int .i32 0, .int .i32 0, .int .u32 0]
theorem info_map : (Try.prog.info? 74).map (fun i => (i.zero, i.size, i.bytes)) = some (some (.agg mapZ), 6, 24) := by kernel_rfl
def mapC : List (Int × Int) → List Value
  | [] => []
  | p :: r => .int .i32 p.1 :: .int .i32 p.2 :: .int .i32 0 :: .int .i32 0 :: .int .i32 0 :: .int .u32 0 :: mapC r
theorem mapC_len : ∀ ps, (mapC ps).length = ps.length * 6
  | [] => rfl
  | p :: r => by simp [mapC, mapC_len r]; omega
theorem mapC_get : ∀ (ps : List (Int × Int)) (k : Nat), k < ps.length → (mapC ps)[k * 6]? = some (.int .i32 (ps.getD k (0, 0)).1) ∧ (mapC ps)[k * 6 + 1]? = some (.int .i32 (ps.getD k (0, 0)).2) ∧ (mapC ps)[k * 6 + 2]? = some (.int .i32 0) ∧ (mapC ps)[k * 6 + 3]? = some (.int .i32 0) ∧ (mapC ps)[k * 6 + 4]? = some (.int .i32 0) ∧ (mapC ps)[k * 6 + 5]? = some (.int .u32 0)
  | [], k, h => by simp at h
  | p :: r, 0, h => by simp [mapC]
  | p :: r, k + 1, h => by
    have := mapC_get r k (by simpa using h)
    have e : (k + 1) * 6 = k * 6 + 6 := by omega
    simpa [mapC, e, show ∀ d, k * 6 + 6 + d = k * 6 + d + 6 from fun d => by omega] using this
theorem mapC_set1 : ∀ (ps : List (Int × Int)) (k : Nat) (a : Int), (mapC ps).set (k * 6) (.int .i32 a) = mapC (ps.set k (a, (ps.getD k (0, 0)).2))
  | [], k, a => by simp [mapC]
  | p :: r, 0, a => by simp [mapC]
  | p :: r, k + 1, a => by
    have := mapC_set1 r k a
    have e : (k + 1) * 6 = k * 6 + 6 := by omega
    simpa [mapC, e] using this
theorem mapC_set2 : ∀ (ps : List (Int × Int)) (k : Nat) (a : Int), (mapC ps).set (k * 6 + 1) (.int .i32 a) = mapC (ps.set k ((ps.getD k (0, 0)).1, a))
  | [], k, a => by simp [mapC]
  | p :: r, 0, a => by simp [mapC]
  | p :: r, k + 1, a => by
    have := mapC_set2 r k a
    have e : (k + 1) * 6 + 1 = k * 6 + 1 + 6 := by omega
    rw [e]
    simpa [mapC] using this
theorem made_mapC (n : Nat) : (madeCells mapZ (n * 6)).toList = mapC (List.replicate n (0, 0)) := by
  apply List.ext_getElem?
  intro j
  by_cases hj : j < n * 6
  · obtain ⟨q, r, hq, hr, rfl⟩ : ∃ q r, q < n ∧ r < 6 ∧ j = q * 6 + r := ⟨j / 6, j % 6, by omega, by omega, by omega⟩
    have hm := mapC_get (List.replicate n (0, 0)) q (by simpa using hq)
    simp only [List.getD_eq_getElem?_getD, List.getElem?_replicate, hq, if_true, Option.getD_some] at hm
    have e : (madeCells mapZ (n * 6)).toList[q * 6 + r]? = some (mapZ[r]!) := by
      have hj' : q * 6 + r < (madeCells mapZ (n * 6)).toList.length := by simpa [madeCells] using hj
      rw [List.getElem?_eq_getElem hj']
      have : (q * 6 + r) % 6 = r := by omega
      simp [madeCells, this]
    rw [e]
    have : r = 0 ∨ r = 1 ∨ r = 2 ∨ r = 3 ∨ r = 4 ∨ r = 5 := by omega
    rcases this with rfl | rfl | rfl | rfl | rfl | rfl
    · exact hm.1.symm
    · exact hm.2.1.symm
    · exact hm.2.2.1.symm
    · exact hm.2.2.2.1.symm
    · exact hm.2.2.2.2.1.symm
    · exact hm.2.2.2.2.2.symm
  · rw [List.getElem?_eq_none (by simpa [madeCells] using hj), List.getElem?_eq_none (by rw [mapC_len]; simpa using hj)]
theorem owned_maps {w : World} {g n : Nat} {b : Nat} (h : w.ownsRow b 74 6 (.slice (some ⟨g, 0, none⟩) n n) n (madeCells mapZ (n * 6)).toList) : w.heap[g]? = some (.cells (mapC (List.replicate n (0, 0))).toArray 74 (0, 0)) := by
  obtain ⟨_, ⟨h1, _⟩ | ⟨g', cap, cur, h1, _, h2, _, _, h3, h4⟩⟩ := h
  · cases h1
  · injection h1 with e1 e2 e3
    injection e1 with e1
    injection e1 with e1
    subst e1 e3
    rw [h2, ← made_mapC, ← h4, List.take_of_length_le (by simp [h3])]
def Maps (w : World) (g : Nat) (ps : List (Int × Int)) : Prop := w.heap[g]? = some (.cells (mapC ps).toArray 74 (0, 0))
theorem Maps.eq {w : World} {g : Nat} {ps : List (Int × Int)} (h : Maps w g ps) : w.heap[g]? = some (.cells (mapC ps).toArray 74 (0, 0)) := h
theorem Maps.cell {w : World} {g : Nat} {ps : List (Int × Int)} (h : Maps w g ps) (j : Nat) : w.cell? ⟨g, j, none⟩ = (mapC ps)[j]? := by
  simp [World.cell?, h.eq]
theorem Maps.frozen {w : World} {g : Nat} {ps : List (Int × Int)} (h : Maps w g ps) (j : Nat) : w.frozen? ⟨g, j, none⟩ = false := by
  simp [World.frozen?, h.eq]
theorem Maps.set1 {w : World} {g : Nat} {ps : List (Int × Int)} (h : Maps w g ps) (k : Nat) (v : Int) : Maps (w.setCell ⟨g, k * 6, none⟩ (.int .i32 v)) g (ps.set k (v, (ps.getD k (0, 0)).2)) := by
  unfold Maps
  rw [heap_setCell_same w g _ _ 74 (.int .i32 v) h.eq, ← mapC_set1]
  simp
theorem Maps.set2 {w : World} {g : Nat} {ps : List (Int × Int)} (h : Maps w g ps) (k : Nat) (v : Int) : Maps (w.setCell ⟨g, k * 6 + 1, none⟩ (.int .i32 v)) g (ps.set k ((ps.getD k (0, 0)).1, v)) := by
  unfold Maps
  rw [heap_setCell_same w g _ _ 74 (.int .i32 v) h.eq, ← mapC_set2]
  simp
def filled (ls cs : List Int) (n k : Nat) : List (Int × Int) := (List.range n).map fun j => if j < k then (ls.getD j 0, cs.getD j 0) else (0, 0)
theorem filled_len (ls cs : List Int) (n k : Nat) : (filled ls cs n k).length = n := by simp [filled]
theorem filled_get (ls cs : List Int) (n k j : Nat) (h : j < n) : (filled ls cs n k).getD j (0, 0) = if j < k then (ls.getD j 0, cs.getD j 0) else (0, 0) := by
  simp [filled, h]
theorem filled_set (ls cs : List Int) (n k : Nat) (b : Int) (h : k < n) : ((filled ls cs n k).set k (ls.getD k 0, b)).set k (ls.getD k 0, cs.getD k 0) = filled ls cs n (k + 1) := by
  rw [List.set_set]
  apply List.ext_getElem
  · simp [filled]
  · intro j h1 h2
    by_cases hjk : k = j
    · subst hjk; simp [filled]
    · have : (j < k + 1) = (j < k) := by simp; omega
      simp [filled, hjk, this]
theorem filled_zero (ls cs : List Int) (n : Nat) : filled ls cs n 0 = List.replicate n (0, 0) := by
  apply List.ext_getElem <;> simp [filled]
set_option maxRecDepth 100000 in
theorem maps_lt (w : World) (v u : Option Addr) (n m n1 m1 : Nat) (ls cs : List Int) (hn : n ≤ 65536) (hn1 : n1 ≤ 65536) (hlt : n1 < n)
    (hv : n = 0 ∨ ∃ x, v = some x ∧ ∀ i, i < n → w.cell? (x.add i) = some (.int .i32 (ls.getD i 0))) (hu : n1 = 0 ∨ ∃ x, u = some x ∧ ∀ i, i < n1 → w.cell? (x.add i) = some (.int .i32 (cs.getD i 0))) :
    Calls Try.prog 35 #[.slice v n m, .slice u n1 m1] w fun e w' => e = .returned (.slice (some ⟨w.heap.size, 0, none⟩) n1 n1) ∧ Maps w' w.heap.size (filled ls cs n1 n1) ∧ w.grownBy w' none := by
  obtain ⟨i0, hi, hzz⟩ := Option.map_eq_some_iff.1 info_map
  simp only [Prod.mk.injEq] at hzz
  obtain ⟨hz0, hs, hb⟩ := hzz
  have HA := Lib.hid hv; have HB := Lib.hid hu
  clear hv hu
  go_enter Try.func35, Try.ntmps35
  go_wp2_with (at_make; refine wpList_make_full _ rfl _ _ 64 rfl w.heap.size 74 i0 _ 6 Try.underlying64 hi hz0 hs _ _ _ _ n1 rfl rfl (by omega) (by omega) (by rw [hb]; omega) (by unfold maxLen; omega) (Nat.le_refl _) ?_; intro w' ho hg; have HO := Lib.hid ho; have HG := Lib.hid hg; clear ho hg)
  go_loopw [7] (fun i wr => ∃ k : Nat, k ≤ n1 ∧ i = .int .i64 k ∧ Maps wr w.heap.size (filled ls cs n1 k) ∧ w.grownBy wr none) (fun i _ => n1 - (intOf i).toNat)
  case atStart =>
    refine ⟨0, by omega, rfl, ?_, HG.out⟩
    rw [filled_zero]
    exact owned_maps HO.out
  case round =>
    obtain ⟨k, hk, rfl, hr, hg⟩ := hrel
    by_cases hlt : k < n1
    · obtain ⟨x, rfl, hx⟩ := HA.out.resolve_left (by omega)
      obtain ⟨y, rfl, hy⟩ := HB.out.resolve_left (by omega)
      have qx := grownby_cell hg (hx k (by omega))
      have qy := grownby_cell hg (hy k (by omega))
      have bx := block_lt_of_cell (hx k (by omega))
      have q1 := hr.cell (k * 6)
      have q2 := hr.cell (k * 6 + 1)
      have qq := mapC_get (filled ls cs n1 k) k (by rw [filled_len]; exact hlt)
      rw [qq.1] at q1
      rw [qq.2.1] at q2
      have hf := hr.frozen
      have hr2 := hr.set1 k (ls.getD k 0)
      have hg2 := grownby_set' hg (Nat.le_refl _) (k * 6) (.int .i32 (ls.getD k 0))
      have qy2 := grownby_cell hg2 (hy k (by omega))
      have q22 := hr2.cell (k * 6 + 1)
      rw [(mapC_get _ k (by rw [List.length_set, filled_len]; exact hlt)).2.1] at q22
      have hf2 := hr2.frozen
      generalize hv : ls.getD k 0 = v at *
      generalize hu : cs.getD k 0 = u at *
      have HV := Lib.hid hv; have HU := Lib.hid hu; have HG2 := Lib.hid hg2; have HR2 := Lib.hid hr2
      clear hv hu hg2 hr2
      have HR := Lib.hid hr; have HG := Lib.hid hg
      clear hr hg qq HO hx hy
      go_wp2
      go_roundw
      case rel =>
        refine ⟨k + 1, by omega, by go_num, ?_, grownby_set' HG2.out (Nat.le_refl _) _ _⟩
        have h1 := HR2.out.set2 k u
        rw [show ((filled ls cs n1 k).set k (v, ((filled ls cs n1 k).getD k (0, 0)).2)).getD k (0, 0) = (v, ((filled ls cs n1 k).getD k (0, 0)).2) from by rw [List.getD_eq_getElem?_getD, List.getElem?_set_self (by rw [filled_len]; exact hlt)]; rfl, ← HV.out, ← HU.out, filled_set ls cs n1 k _ hlt, HV.out, HU.out] at h1
        exact h1
      case measure => simp [intOf]; omega
    · obtain rfl : k = n1 := by omega
      have HR := Lib.hid hr; have HG := Lib.hid hg
      clear hr hg HO
      go_wp2
      go_ret
      exact ⟨rfl, HR.out, HG.out⟩
set_option maxRecDepth 100000 in
theorem maps_ge (w : World) (v u : Option Addr) (n m n1 m1 : Nat) (ls cs : List Int) (hn : n ≤ 65536) (hn1 : n1 ≤ 65536) (hle : n ≤ n1)
    (hv : n = 0 ∨ ∃ x, v = some x ∧ ∀ i, i < n → w.cell? (x.add i) = some (.int .i32 (ls.getD i 0))) (hu : n1 = 0 ∨ ∃ x, u = some x ∧ ∀ i, i < n1 → w.cell? (x.add i) = some (.int .i32 (cs.getD i 0))) :
    Calls Try.prog 35 #[.slice v n m, .slice u n1 m1] w fun e w' => e = .returned (.slice (some ⟨w.heap.size, 0, none⟩) n n) ∧ Maps w' w.heap.size (filled ls cs n n) ∧ w.grownBy w' none := by
  obtain ⟨i0, hi, hzz⟩ := Option.map_eq_some_iff.1 info_map
  simp only [Prod.mk.injEq] at hzz
  obtain ⟨hz0, hs, hb⟩ := hzz
  have HA := Lib.hid hv; have HB := Lib.hid hu
  clear hv hu
  have hnl : (decide ((n1:Int) < (n:Int))) = false := by simp; omega
  go_enter Try.func35, Try.ntmps35
  go_wp2_with (at_make; refine wpList_make_full _ rfl _ _ 64 rfl w.heap.size 74 i0 _ 6 Try.underlying64 hi hz0 hs _ _ _ _ n rfl rfl (by omega) (by omega) (by rw [hb]; omega) (by unfold maxLen; omega) (Nat.le_refl _) ?_; intro w' ho hg; have HO := Lib.hid ho; have HG := Lib.hid hg; clear ho hg)
  go_loopw [7] (fun i wr => ∃ k : Nat, k ≤ n ∧ i = .int .i64 k ∧ Maps wr w.heap.size (filled ls cs n k) ∧ w.grownBy wr none) (fun i _ => n - (intOf i).toNat)
  case atStart =>
    refine ⟨0, by omega, rfl, ?_, HG.out⟩
    rw [filled_zero]
    exact owned_maps HO.out
  case round =>
    obtain ⟨k, hk, rfl, hr, hg⟩ := hrel
    by_cases hlt : k < n
    · obtain ⟨x, rfl, hx⟩ := HA.out.resolve_left (by omega)
      obtain ⟨y, rfl, hy⟩ := HB.out.resolve_left (by omega)
      have qx := grownby_cell hg (hx k (by omega))
      have qy := grownby_cell hg (hy k (by omega))
      have bx := block_lt_of_cell (hx k (by omega))
      have q1 := hr.cell (k * 6)
      have q2 := hr.cell (k * 6 + 1)
      have qq := mapC_get (filled ls cs n k) k (by rw [filled_len]; exact hlt)
      rw [qq.1] at q1
      rw [qq.2.1] at q2
      have hf := hr.frozen
      have hr2 := hr.set1 k (ls.getD k 0)
      have hg2 := grownby_set' hg (Nat.le_refl _) (k * 6) (.int .i32 (ls.getD k 0))
      have qy2 := grownby_cell hg2 (hy k (by omega))
      have q22 := hr2.cell (k * 6 + 1)
      rw [(mapC_get _ k (by rw [List.length_set, filled_len]; exact hlt)).2.1] at q22
      have hf2 := hr2.frozen
      generalize hv : ls.getD k 0 = v at *
      generalize hu : cs.getD k 0 = u at *
      have HV := Lib.hid hv; have HU := Lib.hid hu; have HG2 := Lib.hid hg2; have HR2 := Lib.hid hr2
      clear hv hu hg2 hr2
      have HR := Lib.hid hr; have HG := Lib.hid hg
      clear hr hg qq HO hx hy
      go_wp2
      go_roundw
      case rel =>
        refine ⟨k + 1, by omega, by go_num, ?_, grownby_set' HG2.out (Nat.le_refl _) _ _⟩
        have h1 := HR2.out.set2 k u
        rw [show ((filled ls cs n k).set k (v, ((filled ls cs n k).getD k (0, 0)).2)).getD k (0, 0) = (v, ((filled ls cs n k).getD k (0, 0)).2) from by rw [List.getD_eq_getElem?_getD, List.getElem?_set_self (by rw [filled_len]; exact hlt)]; rfl, ← HV.out, ← HU.out, filled_set ls cs n k _ hlt, HV.out, HU.out] at h1
        exact h1
      case measure => simp [intOf]; omega
    · obtain rfl : k = n := by omega
      have HR := Lib.hid hr; have HG := Lib.hid hg
      clear hr hg HO
      go_wp2
      go_ret
      exact ⟨rfl, HR.out, HG.out⟩
end Go.Proofs.Ytnhefnccjlbeiaa
