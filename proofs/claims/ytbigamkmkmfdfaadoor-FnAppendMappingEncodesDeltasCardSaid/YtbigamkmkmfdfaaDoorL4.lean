/-
  zzCopyBytes; the walk of FnDecodeVLQMatchesHornerModel.
-/
import Derived.Test.YtbigamkmkmfdfaaDoorL1
import Derived.Test.YtbigamkmkmfdfaaDoorL3
namespace Go.Proofs.YtbigamkmkmfdfaaDoor
open Go.ChangeShapes Go.WideShapes Go.ChangeAt Go.RowKit
set_option linter.unusedVariables false
def RowB (w : World) (g : Nat) (zs : List Int) : Prop := w.heap[g]? = some (.cells (cellsB zs).toArray 5 (0, 0))
theorem RowB.eq {w : World} {g : Nat} {zs : List Int} (h : RowB w g zs) : w.heap[g]? = some (.cells (cellsB zs).toArray 5 (0, 0)) := h
theorem RowB.cell {w : World} {g : Nat} {zs : List Int} (h : RowB w g zs) {j : Nat} (hj : j < zs.length) : w.cell? ⟨g, j, none⟩ = some (.int .u8 (zs.getD j 0)) := by
  have : (cellsB zs).toArray[j]? = some (.int .u8 (zs.getD j 0)) := by simp [cellsB, hj, List.getD]
  simp only [World.cell?, h.eq]
  exact this
theorem RowB.frozen {w : World} {g : Nat} {zs : List Int} (h : RowB w g zs) (j : Nat) : w.frozen? ⟨g, j, none⟩ = false := by
  simp [World.frozen?, h.eq]
theorem RowB.set {w : World} {g : Nat} {zs : List Int} (h : RowB w g zs) (j : Nat) (v : Int) : RowB (w.setCell ⟨g, j, none⟩ (.int .u8 v)) g (zs.set j v) := by
  unfold RowB
  rw [heap_setCell_same w g j (cellsB zs).toArray 5 (.int .u8 v) h.eq]
  simp [cellsB, List.map_set]
theorem RowB.own {w : World} {g B : Nat} {zs : List Int} (h : RowB w g zs) (hB : B ≤ g) (hl : zs.length ≤ 2097152) : OwnB w B (.slice (some ⟨g, 0, none⟩) zs.length zs.length) zs := by
  refine ⟨by rw [cellsB_len]; omega, Or.inr ⟨g, zs.length, _, rfl, hB, h.eq, Nat.le_refl _, by unfold maxLen; omega, by simp [cellsB], ?_⟩⟩
  simp only [Nat.mul_one]
  exact List.take_of_length_le (by rw [cellsB_len]; omega)
theorem fill_set (zs : List Int) (n k : Nat) (hz : n ≤ zs.length) (hk : k < n) : (zs.take k ++ List.replicate (n - k) (0:Int)).set k (zs.getD k 0) = zs.take (k + 1) ++ List.replicate (n - (k + 1)) 0 := by
  have h1 : (zs.take k).length = k := by simp; omega
  have h2 : n - k = (n - (k + 1)) + 1 := by omega
  rw [List.set_append_right _ _ (by omega), h1, Nat.sub_self, h2, List.replicate_succ, List.set_cons_zero, List.take_succ_eq_append_getElem (show k < zs.length by omega)]
  have h3 : zs.getD k 0 = zs[k]'(by omega) := by simp [show k < zs.length by omega]
  rw [h3, List.append_assoc]
  rfl
theorem made_rowB (w : World) (n : Nat) : RowB (w.alloc (.cells (madeCells #[.int .u8 0] n) 5)) w.heap.size (List.replicate n 0) := by
  refine (heap_alloc_new _ _).trans ?_
  rw [made_row]
  simp [cellsB]
set_option maxRecDepth 100000 in
set_option maxHeartbeats 1000000 in
theorem copy14 (w : World) (a : Option Addr) (len cap : Nat) (xs : List Int) (h : Bytes w (.slice a len cap) xs) (hl : len ≤ 1048576) :
    Calls Tryd.prog 14 #[.slice a len cap] w fun e w' => ∃ p, e = .returned (.slice p len len) ∧ OwnB w' w.heap.size (.slice p len len) xs ∧ Below w.heap.size w w' := by
  obtain ⟨p, c, e, hcap, hi⟩ := h
  obtain ⟨rfl, rfl, rfl⟩ : p = a ∧ xs.length = len ∧ c = cap := by cases e; exact ⟨rfl, rfl, rfl⟩
  obtain ⟨i0, hin, hz0, hs, hb⟩ := info_parts info5
  cases p with
  | none =>
    have h0 : xs = [] := by
      cases xs with
      | nil => rfl
      | cons x xs => obtain ⟨a, ha, _⟩ := hi 0 (by simp); cases ha
    subst h0
    go_enter Tryd.func14, Tryd.ntmps14
    go_wp2_with fail
    go_ret
    exact ⟨none, rfl, ⟨by simp [cellsB], Or.inl ⟨rfl, rfl⟩⟩, Below.refl _ _⟩
  | some x =>
    have hcell : ∀ i, i < xs.length → w.cell? (x.add i) = some (.int .u8 (xs.getD i 0)) := by
      intro i h
      obtain ⟨a, ha, hc⟩ := hi i h
      cases ha
      exact hc
    have HC := Lib.hid hcell
    clear hi hcell e
    obtain ⟨n, hn⟩ : ∃ n, xs.length = n := ⟨_, rfl⟩
    have HN := Lib.hid hn
    rw [hn] at hl hcap ⊢
    clear hn
    go_enter Tryd.func14, Tryd.ntmps14
    go_wp2_with (at_make; refine wpList_make_row _ rfl _ _ 22 rfl 5 i0 (.int .u8 0) Tryd.underlying22 hin hz0 hs rfl _ _ n rfl rfl (by rw [hb]; omega) (by omega) ?_)
    go_loopw [4] (fun i wr => ∃ k : Nat, k ≤ n ∧ i = .int .i64 k ∧ Hid (RowB wr w.heap.size (xs.take k ++ List.replicate (n - k) 0)) ∧ Hid (Below w.heap.size w wr)) (fun i _ => n - (intOf i).toNat)
    case atStart => exact ⟨0, by omega, rfl, Lib.hid (made_rowB w n), Lib.hid ((Below.refl _ _).alloc (Nat.le_refl _) _)⟩
    case round =>
      obtain ⟨k, hk, rfl, HR, HG⟩ := hrel
      by_cases hlt : k < n
      · have q : wr.cell? (x.add k) = some (.int .u8 (xs.getD k 0)) := by
          have := HC.out k (by have := HN.out; omega)
          rw [HG.out.cell (block_lt_of_cell this)]; exact this
        have hl : k < (xs.take k ++ List.replicate (n - k) (0:Int)).length := by have := HN.out; simp; omega
        have hd := HR.out.cell hl
        have hf := HR.out.frozen k
        obtain ⟨v, hv⟩ : ∃ v, xs.getD k 0 = v := ⟨_, rfl⟩
        rw [hv] at q
        obtain ⟨o, ho⟩ : ∃ o, (xs.take k ++ List.replicate (n - k) (0:Int)).getD k 0 = o := ⟨_, rfl⟩
        rw [ho] at hd
        have HV := Lib.hid hv
        clear hv hl ho
        go_wp2
        go_roundw
        case rel => exact ⟨k + 1, by omega, by go_num, by rw [← fill_set xs n k (by have := HN.out; omega) hlt, HV.out]; exact Lib.hid (HR.out.set _ _), Lib.hid (HG.out.setCell (Nat.le_refl _) _)⟩
        case measure => simp only [intOf]; omega
      · obtain rfl : k = n := by omega
        go_wp2_with fail
        go_ret
        refine ⟨_, rfl, ?_, HG.out⟩
        have hr := HR.out
        rw [Nat.sub_self, List.replicate_zero, List.append_nil, List.take_of_length_le (by have := HN.out; omega)] at hr
        have := hr.own (Nat.le_refl _) (by have := HN.out; omega)
        rw [HN.out] at this
        exact this
theorem wf_byte (n : Int) (h : (Lit.int .u8 n).wf = true) : 0 ≤ n ∧ n < 256 := by
  simp only [Lit.wf, Bool.and_eq_true, decide_eq_true_eq] at h
  have e1 : IntKind.u8.min = 0 := by decide
  have e2 : IntKind.u8.max = 255 := by decide
  omega
theorem IsRow.allB {w : World} {a : Option Addr} {len cap : Nat} {z : List Int} (h : IsRow .u8 w a len cap z) : AllB (z.take len) := by
  intro i hi
  rcases h with ⟨rfl, rfl, rfl, rfl⟩ | ⟨x, rfl, h1, h2, h3, h4, h5⟩
  · simp at hi
  · have hiz : i < z.length := by simp at hi; omega
    have e : (z.take len).getD i 0 = z[i] := by
      have : i < len := by simp at hi; omega
      simp [List.getD, this, hiz]
    rw [e]
    exact wf_byte _ (h5 _ (List.getElem_mem hiz))
theorem AllB.mem {xs : List Int} (h : AllB xs) : ∀ x ∈ xs, 0 ≤ x ∧ x < 256 := by
  intro x hx
  obtain ⟨i, hi, rfl⟩ := List.mem_iff_getElem.1 hx
  have := h i hi
  have e : xs.getD i 0 = xs[i] := by simp [List.getD, hi]
  rwa [e] at this
theorem below_drewN (w : World) (B n : Nat) : Below B w (w.drewN n) := ⟨rfl, rfl, rfl, Nat.le_refl _, fun _ _ => rfl⟩
set_option maxRecDepth 100000 in
set_option maxHeartbeats 4000000 in
theorem FnDecodeVLQMatchesHornerModel_walk (a0 : Option Addr) (len0 cap0 : Nat) (z0 : List Int) (a1 : Int) (w : World) (w0 : IsRow .u8 w a0 len0 cap0 z0) (w1 : (Lit.int .i64 a1).wf = true) (hT : Lib.TabSlice 0 .u8 b64 w) :
    Calls Tryd.prog 6 #[.slice a0 len0 cap0, .int .i64 a1] w fun e w' => e = .returned (.bool true) ∧ Below w.heap.size w w' := by
  have hx0 : len0 ≤ maxLen := by rcases w0 with ⟨_, rfl, _⟩ | ⟨x, _, h, h', _⟩ <;> omega
  unfold maxLen at hx0
  obtain ⟨b0, l0⟩ := w0.bytes
  have hab := w0.allB
  obtain ⟨R, o, cc, hTab⟩ := tab_in hT
  generalize z0.take len0 = x0 at *
  have B0 := Lib.hid b0; have L0 := Lib.hid l0; have HAB := Lib.hid hab; have HTab := Lib.hid hTab
  clear b0 l0 w0 hT hab hTab
  by_cases s0 : 1048576 < len0
  · go_enter Tryd.func6, Tryd.ntmps6
    go_wp2_with (first | (go_at_call 23; go_in)); go_ret; exact ⟨rfl, Below.refl _ _⟩
  by_cases c1 : a1 < 0
  · go_enter Tryd.func6, Tryd.ntmps6
    go_wp2_with (first | (go_at_call 23; go_in)); go_ret; exact ⟨rfl, Below.refl _ _⟩
  obtain ⟨st, rfl⟩ := Int.eq_ofNat_of_zero_le (by omega : 0 ≤ a1)
  by_cases c2 : len0 ≤ st
  · go_enter Tryd.func6, Tryd.ntmps6
    go_wp2_with (first | (go_at_call 23; go_in)); go_ret; exact ⟨rfl, Below.refl _ _⟩
  clear w1
  go_enter Tryd.func6, Tryd.ntmps6
  go_wp2_with (first | (go_at_call 23; go_in))
  refine (copy14 _ _ _ _ x0 B0.out (by omega)).mono ?_
  rintro e v1 ⟨p0, rfl, o0, be1⟩
  have O0 := Lib.hid o0.bytes; have E1 := Lib.hid be1; clear o0 be1
  go_wp2_with fail
  refine (scan24 v1 p0 len0 len0 x0 st O0.out HAB.out (by omega) (by omega)).mono ?_
  rintro e v2 ⟨⟨e0, ov, rfl, hsc⟩, rfl⟩
  cases ov
  · have HSC := Lib.hid (hsc rfl)
    have hle := HSC.out.le
    have hfit := HSC.out.fits
    rw [L0.out] at hfit
    clear hsc
    by_cases h7 : 7 < e0 - st
    · have d : (7 : Int) < (e0 : Int) - (st : Int) := by omega
      go_wp2_with fail
      go_ret
      exact ⟨rfl, E1.out⟩
    · have d : ¬ (7 : Int) < (e0 : Int) - (st : Int) := by omega
      have hvl := val_lt x0 (e0 - st) st
      have hpow : 2 ^ (5 * (e0 - st)) ≤ 2 ^ 35 := Nat.pow_le_pow_right (by omega) (by omega)
      have HH := Lib.hid (horner25 v1 p0 len0 len0 x0 st (e0 - st) e0 (Lib.hid (by omega)) O0.out HAB.out (by omega) (by omega) (by omega) (fun t h1 h2 => HSC.out.digits t h1 (by omega)))
      have HD := Lib.hid (dec16 v1 p0 len0 len0 x0 st e0 O0.out HAB.out.mem (by omega) R o cc (HTab.out.below E1.out) HSC.out (by omega))
      obtain ⟨V, hV⟩ : ∃ V, val x0 st (e0 - st) = V := ⟨_, rfl⟩
      rw [hV] at hvl HH HD
      have hVl : V < 34359738368 := by omega
      have H26 := Lib.hid (fun w => sg26 V (by omega) w)
      clear hvl hpow hV
      go_wp2_with fail
      refine (HH.out).mono ?_
      rintro e v2 ⟨rfl, rfl⟩
      by_cases hbig : 2147483647 < V
      · go_wp2_with fail
        go_ret
        exact ⟨rfl, E1.out⟩
      · go_wp2_with fail
        refine (HD.out).mono ?_
        rintro e v2 ⟨rfl, m, rfl⟩
        go_wp2_with fail
        refine (H26.out _).mono ?_
        rintro e v2 ⟨rfl, rfl⟩
        go_wp2_with fail
        go_ret
        exact ⟨ret_bool (by simp), E1.out.trans (below_drewN _ _ _)⟩
  · go_wp2_with fail
    go_ret
    exact ⟨rfl, E1.out⟩
end Go.Proofs.YtbigamkmkmfdfaaDoor
