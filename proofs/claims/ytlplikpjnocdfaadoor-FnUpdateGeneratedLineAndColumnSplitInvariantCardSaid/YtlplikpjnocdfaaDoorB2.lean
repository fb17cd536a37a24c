/-
  Rows of int32s, of bools and of bytes that are read; the three clones.
-/
import Derived.Test.YtlplikpjnocdfaaDoorB1
namespace Go.Proofs.YtlplikpjnocdfaaDoor
open Go.ChangeShapes Go.WideShapes Go.ChangeAt Go.RowKit
set_option linter.unusedVariables false

/-- v is a slice that holds the numbers (bools, bytes) xs, each laid as f says -/
def RowOf {α : Type} (f : α → Value) (d : α) (w : World) (v : Value) (xs : List α) : Prop := ∃ p c, v = .slice p xs.length c ∧ xs.length ≤ c ∧ ∀ i, i < xs.length → ∃ a, p = some a ∧ w.cell? (a.add i) = some (f (xs.getD i d))
section
variable {α : Type} {f : α → Value} {d : α}
theorem RowOf.keep {w w' : World} {v : Value} {xs : List α} (h : RowOf f d w v xs) (hb : Below w.heap.size w w') : RowOf f d w' v xs := by
  obtain ⟨p, c, e, hc, hi⟩ := h
  refine ⟨p, c, e, hc, fun i h => ?_⟩
  obtain ⟨a, ha, hc⟩ := hi i h
  exact ⟨a, ha, by rw [hb.cell (block_lt_of_cell hc)]; exact hc⟩
/-- a row of the code's own, all of it in block g -/
def RowG (f : α → Value) (T : TypeId) (w : World) (g : Nat) (zs : List α) : Prop := w.heap[g]? = some (.cells (zs.map f).toArray T (0, 0))
theorem RowG.eq {T : TypeId} {w : World} {g : Nat} {zs : List α} (h : RowG f T w g zs) : w.heap[g]? = some (.cells (zs.map f).toArray T (0, 0)) := h
theorem RowG.cell {T : TypeId} {w : World} {g : Nat} {zs : List α} (h : RowG f T w g zs) {j : Nat} (hj : j < zs.length) : w.cell? ⟨g, j, none⟩ = some (f (zs.getD j d)) := by
  have : (zs.map f).toArray[j]? = some (f (zs.getD j d)) := by simp [hj, List.getD]
  simp only [World.cell?, h.eq]
  exact this
theorem RowG.frozen {T : TypeId} {w : World} {g : Nat} {zs : List α} (h : RowG f T w g zs) (j : Nat) : w.frozen? ⟨g, j, none⟩ = false := by
  simp [World.frozen?, h.eq]
theorem RowG.set {T : TypeId} {w : World} {g : Nat} {zs : List α} (h : RowG f T w g zs) (j : Nat) (v : α) : RowG f T (w.setCell ⟨g, j, none⟩ (f v)) g (zs.set j v) := by
  unfold RowG
  rw [heap_setCell_same w g j (zs.map f).toArray T (f v) h.eq]
  simp [List.map_set]
theorem RowG.row {T : TypeId} {w : World} {g : Nat} {zs : List α} (h : RowG f T w g zs) : RowOf f d w (.slice (some ⟨g, 0, none⟩) zs.length zs.length) zs :=
  ⟨_, _, rfl, Nat.le_refl _, fun i hi => ⟨_, rfl, by rw [Addr.add_lit, Nat.zero_add]; exact h.cell hi⟩⟩
theorem RowG.made {T : TypeId} (w : World) (n : Nat) (z : α) : RowG f T (w.alloc (.cells (madeCells #[f z] n) T)) w.heap.size (List.replicate n z) := by
  refine (heap_alloc_new _ _).trans ?_
  rw [made_row]
  simp
theorem fill_setG (zs : List α) (z : α) (n k : Nat) (hz : n ≤ zs.length) (hk : k < n) : (zs.take k ++ List.replicate (n - k) z).set k (zs.getD k d) = zs.take (k + 1) ++ List.replicate (n - (k + 1)) z := by
  have h1 : (zs.take k).length = k := by simp; omega
  have h2 : n - k = (n - (k + 1)) + 1 := by omega
  rw [List.set_append_right _ _ (by omega), h1, Nat.sub_self, h2, List.replicate_succ, List.set_cons_zero, List.take_succ_eq_append_getElem (show k < zs.length by omega)]
  have h3 : zs.getD k d = zs[k]'(by omega) := by simp [show k < zs.length by omega]
  rw [h3, List.append_assoc]
  rfl
end
abbrev I32s := RowOf (Value.int .i32) (0 : Int)
abbrev Bls := RowOf Value.bool false
abbrev U8s := RowOf (Value.int .u8) (0 : Int)
theorem U8s.bytes {w : World} {v : Value} {xs : List Int} (h : U8s w v xs) : Bytes w v xs := h
theorem info21 : (Tryd.prog.info? 21).map (fun i => (i.zero, i.size, i.bytes)) = some (some (.int .i32 0), 1, 4) := by kernel_rfl
theorem info4 : (Tryd.prog.info? 4).map (fun i => (i.zero, i.size, i.bytes)) = some (some (.bool false), 1, 1) := by kernel_rfl
@[go_sem] theorem eqnil22 (w : World) (a : Option Addr) (n c : Nat) : (binOp .eql 22 (.slice a n c) (.slice none 0 0)).run Tryd.prog w = .ok (.bool a.isNone) w := Lib.run_eql_slice_nil w 22 21 a n c 0 0 Tryd.underlying22
@[go_sem] theorem eqnil23 (w : World) (a : Option Addr) (n c : Nat) : (binOp .eql 23 (.slice a n c) (.slice none 0 0)).run Tryd.prog w = .ok (.bool a.isNone) w := Lib.run_eql_slice_nil w 23 4 a n c 0 0 Tryd.underlying23
set_option maxRecDepth 100000 in
set_option maxHeartbeats 1000000 in
theorem cl7 (w : World) (a : Option Addr) (len cap : Nat) (xs : List Int) (h : I32s w (.slice a len cap) xs) (hl : len ≤ 1048576) :
    Calls Tryd.prog 7 #[.slice a len cap] w fun e w' => ∃ p, e = .returned (.slice p len len) ∧ I32s w' (.slice p len len) xs ∧ Below w.heap.size w w' := by
  obtain ⟨p, c, e, hcap, hi⟩ := h
  obtain ⟨rfl, rfl, rfl⟩ : p = a ∧ xs.length = len ∧ c = cap := by cases e; exact ⟨rfl, rfl, rfl⟩
  obtain ⟨i0, hin, hz0, hs, hb⟩ := info_parts info21
  cases p with
  | none =>
    have h0 : xs = [] := by
      cases xs with
      | nil => rfl
      | cons x xs => obtain ⟨a, ha, _⟩ := hi 0 (by simp); cases ha
    subst h0
    go_enter Tryd.func7, Tryd.ntmps7
    go_wp2_with fail
    go_ret
    exact ⟨none, rfl, ⟨none, 0, rfl, Nat.le_refl _, fun i hi => absurd hi (by simp)⟩, Below.refl _ _⟩
  | some x =>
    have hcell : ∀ i, i < xs.length → w.cell? (x.add i) = some (Value.int .i32 (xs.getD i 0)) := by
      intro i h
      obtain ⟨a, ha, hc⟩ := hi i h
      cases ha
      exact hc
    have HC := Lib.hid hcell
    clear hi hcell e
    obtain ⟨n, hn⟩ : ∃ n, xs.length = n := ⟨_, rfl⟩
    have HN := Lib.hid hn
    rw [hn] at hl hcap ⊢
    clear hn
    go_enter Tryd.func7, Tryd.ntmps7
    go_wp2_with (at_make; refine wpList_make_row _ rfl _ _ 22 rfl 21 i0 (Value.int .i32 0) Tryd.underlying22 hin hz0 hs rfl _ _ n rfl rfl (by rw [hb]; omega) (by omega) ?_)
    go_loopw [4] (fun i wr => ∃ k : Nat, k ≤ n ∧ i = .int .i64 k ∧ Hid (RowG (Value.int .i32) 21 wr w.heap.size (xs.take k ++ List.replicate (n - k) 0)) ∧ Hid (Below w.heap.size w wr)) (fun i _ => n - (intOf i).toNat)
    case atStart => exact ⟨0, by omega, rfl, Lib.hid (RowG.made w n 0), Lib.hid ((Below.refl _ _).alloc (Nat.le_refl _) _)⟩
    case round =>
      obtain ⟨k, hk, rfl, HR, HG⟩ := hrel
      by_cases hlt : k < n
      · have q : wr.cell? (x.add k) = some (Value.int .i32 (xs.getD k 0)) := by
          have := HC.out k (by have := HN.out; omega)
          rw [HG.out.cell (block_lt_of_cell this)]; exact this
        have hl : k < (xs.take k ++ List.replicate (n - k) (0 : Int)).length := by have := HN.out; simp; omega
        have hd := HR.out.cell (d := 0) hl
        have hf := HR.out.frozen k
        obtain ⟨v, hv⟩ : ∃ v, xs.getD k 0 = v := ⟨_, rfl⟩
        rw [hv] at q
        obtain ⟨o, ho⟩ : ∃ o, (xs.take k ++ List.replicate (n - k) (0 : Int)).getD k 0 = o := ⟨_, rfl⟩
        rw [ho] at hd
        have HV := Lib.hid hv
        clear hv hl ho
        go_wp2
        go_roundw
        case rel => exact ⟨k + 1, by omega, by go_num, by rw [← fill_setG (d := 0) xs 0 n k (by have := HN.out; omega) hlt, HV.out]; exact Lib.hid (HR.out.set _ _), Lib.hid (HG.out.setCell (Nat.le_refl _) _)⟩
        case measure => simp only [intOf]; omega
      · obtain rfl : k = n := by omega
        go_wp2_with fail
        go_ret
        refine ⟨_, rfl, ?_, HG.out⟩
        have hr := HR.out
        rw [Nat.sub_self, List.replicate_zero, List.append_nil, List.take_of_length_le (by have := HN.out; omega)] at hr
        have := hr.row (d := 0)
        rw [HN.out] at this
        exact this
set_option maxRecDepth 100000 in
set_option maxHeartbeats 1000000 in
theorem cl8 (w : World) (a : Option Addr) (len cap : Nat) (xs : List Bool) (h : Bls w (.slice a len cap) xs) (hl : len ≤ 1048576) :
    Calls Tryd.prog 8 #[.slice a len cap] w fun e w' => ∃ p, e = .returned (.slice p len len) ∧ Bls w' (.slice p len len) xs ∧ Below w.heap.size w w' := by
  obtain ⟨p, c, e, hcap, hi⟩ := h
  obtain ⟨rfl, rfl, rfl⟩ : p = a ∧ xs.length = len ∧ c = cap := by cases e; exact ⟨rfl, rfl, rfl⟩
  obtain ⟨i0, hin, hz0, hs, hb⟩ := info_parts info4
  cases p with
  | none =>
    have h0 : xs = [] := by
      cases xs with
      | nil => rfl
      | cons x xs => obtain ⟨a, ha, _⟩ := hi 0 (by simp); cases ha
    subst h0
    go_enter Tryd.func8, Tryd.ntmps8
    go_wp2_with fail
    go_ret
    exact ⟨none, rfl, ⟨none, 0, rfl, Nat.le_refl _, fun i hi => absurd hi (by simp)⟩, Below.refl _ _⟩
  | some x =>
    have hcell : ∀ i, i < xs.length → w.cell? (x.add i) = some (Value.bool (xs.getD i false)) := by
      intro i h
      obtain ⟨a, ha, hc⟩ := hi i h
      cases ha
      exact hc
    have HC := Lib.hid hcell
    clear hi hcell e
    obtain ⟨n, hn⟩ : ∃ n, xs.length = n := ⟨_, rfl⟩
    have HN := Lib.hid hn
    rw [hn] at hl hcap ⊢
    clear hn
    go_enter Tryd.func8, Tryd.ntmps8
    go_wp2_with (at_make; refine wpList_make_row _ rfl _ _ 23 rfl 4 i0 (Value.bool false) Tryd.underlying23 hin hz0 hs rfl _ _ n rfl rfl (by rw [hb]; omega) (by omega) ?_)
    go_loopw [4] (fun i wr => ∃ k : Nat, k ≤ n ∧ i = .int .i64 k ∧ Hid (RowG (Value.bool) 4 wr w.heap.size (xs.take k ++ List.replicate (n - k) false)) ∧ Hid (Below w.heap.size w wr)) (fun i _ => n - (intOf i).toNat)
    case atStart => exact ⟨0, by omega, rfl, Lib.hid (RowG.made w n false), Lib.hid ((Below.refl _ _).alloc (Nat.le_refl _) _)⟩
    case round =>
      obtain ⟨k, hk, rfl, HR, HG⟩ := hrel
      by_cases hlt : k < n
      · have q : wr.cell? (x.add k) = some (Value.bool (xs.getD k false)) := by
          have := HC.out k (by have := HN.out; omega)
          rw [HG.out.cell (block_lt_of_cell this)]; exact this
        have hl : k < (xs.take k ++ List.replicate (n - k) (false : Bool)).length := by have := HN.out; simp; omega
        have hd := HR.out.cell (d := false) hl
        have hf := HR.out.frozen k
        obtain ⟨v, hv⟩ : ∃ v, xs.getD k false = v := ⟨_, rfl⟩
        rw [hv] at q
        obtain ⟨o, ho⟩ : ∃ o, (xs.take k ++ List.replicate (n - k) (false : Bool)).getD k false = o := ⟨_, rfl⟩
        rw [ho] at hd
        have HV := Lib.hid hv
        clear hv hl ho
        go_wp2
        go_roundw
        case rel => exact ⟨k + 1, by omega, by go_num, by rw [← fill_setG (d := false) xs false n k (by have := HN.out; omega) hlt, HV.out]; exact Lib.hid (HR.out.set _ _), Lib.hid (HG.out.setCell (Nat.le_refl _) _)⟩
        case measure => simp only [intOf]; omega
      · obtain rfl : k = n := by omega
        go_wp2_with fail
        go_ret
        refine ⟨_, rfl, ?_, HG.out⟩
        have hr := HR.out
        rw [Nat.sub_self, List.replicate_zero, List.append_nil, List.take_of_length_le (by have := HN.out; omega)] at hr
        have := hr.row (d := false)
        rw [HN.out] at this
        exact this
set_option maxRecDepth 100000 in
set_option maxHeartbeats 1000000 in
theorem cl21 (w : World) (a : Option Addr) (len cap : Nat) (xs : List Int) (h : U8s w (.slice a len cap) xs) (hl : len ≤ 1048576) :
    Calls Tryd.prog 21 #[.slice a len cap] w fun e w' => ∃ p, e = .returned (.slice p len len) ∧ U8s w' (.slice p len len) xs ∧ Below w.heap.size w w' := by
  obtain ⟨p, c, e, hcap, hi⟩ := h
  obtain ⟨rfl, rfl, rfl⟩ : p = a ∧ xs.length = len ∧ c = cap := by cases e; exact ⟨rfl, rfl, rfl⟩
  obtain ⟨i0, hin, hz0, hs, hb⟩ := info_parts info5
  cases p with
  | none =>
    have h0 : xs = [] := by
      cases xs with
      | nil => rfl
      | cons x xs => obtain ⟨a, ha, _⟩ := hi 0 (by simp); cases ha
    subst h0
    go_enter Tryd.func21, Tryd.ntmps21
    go_wp2_with fail
    go_ret
    exact ⟨none, rfl, ⟨none, 0, rfl, Nat.le_refl _, fun i hi => absurd hi (by simp)⟩, Below.refl _ _⟩
  | some x =>
    have hcell : ∀ i, i < xs.length → w.cell? (x.add i) = some (Value.int .u8 (xs.getD i 0)) := by
      intro i h
      obtain ⟨a, ha, hc⟩ := hi i h
      cases ha
      exact hc
    have HC := Lib.hid hcell
    clear hi hcell e
    obtain ⟨n, hn⟩ : ∃ n, xs.length = n := ⟨_, rfl⟩
    have HN := Lib.hid hn
    rw [hn] at hl hcap ⊢
    clear hn
    go_enter Tryd.func21, Tryd.ntmps21
    go_wp2_with (at_make; refine wpList_make_row _ rfl _ _ 34 rfl 5 i0 (Value.int .u8 0) Tryd.underlying34 hin hz0 hs rfl _ _ n rfl rfl (by rw [hb]; omega) (by omega) ?_)
    go_loopw [4] (fun i wr => ∃ k : Nat, k ≤ n ∧ i = .int .i64 k ∧ Hid (RowG (Value.int .u8) 5 wr w.heap.size (xs.take k ++ List.replicate (n - k) 0)) ∧ Hid (Below w.heap.size w wr)) (fun i _ => n - (intOf i).toNat)
    case atStart => exact ⟨0, by omega, rfl, Lib.hid (RowG.made w n 0), Lib.hid ((Below.refl _ _).alloc (Nat.le_refl _) _)⟩
    case round =>
      obtain ⟨k, hk, rfl, HR, HG⟩ := hrel
      by_cases hlt : k < n
      · have q : wr.cell? (x.add k) = some (Value.int .u8 (xs.getD k 0)) := by
          have := HC.out k (by have := HN.out; omega)
          rw [HG.out.cell (block_lt_of_cell this)]; exact this
        have hl : k < (xs.take k ++ List.replicate (n - k) (0 : Int)).length := by have := HN.out; simp; omega
        have hd := HR.out.cell (d := 0) hl
        have hf := HR.out.frozen k
        obtain ⟨v, hv⟩ : ∃ v, xs.getD k 0 = v := ⟨_, rfl⟩
        rw [hv] at q
        obtain ⟨o, ho⟩ : ∃ o, (xs.take k ++ List.replicate (n - k) (0 : Int)).getD k 0 = o := ⟨_, rfl⟩
        rw [ho] at hd
        have HV := Lib.hid hv
        clear hv hl ho
        go_wp2
        go_roundw
        case rel => exact ⟨k + 1, by omega, by go_num, by rw [← fill_setG (d := 0) xs 0 n k (by have := HN.out; omega) hlt, HV.out]; exact Lib.hid (HR.out.set _ _), Lib.hid (HG.out.setCell (Nat.le_refl _) _)⟩
        case measure => simp only [intOf]; omega
      · obtain rfl : k = n := by omega
        go_wp2_with fail
        go_ret
        refine ⟨_, rfl, ?_, HG.out⟩
        have hr := HR.out
        rw [Nat.sub_self, List.replicate_zero, List.append_nil, List.take_of_length_le (by have := HN.out; omega)] at hr
        have := hr.row (d := 0)
        rw [HN.out] at this
        exact this

/-- the numbers are 32-bit numbers -/
def A32 (xs : List Int) : Prop := ∀ i, -2147483648 ≤ xs.getD i 0 ∧ xs.getD i 0 ≤ 2147483647
set_option maxRecDepth 100000 in
theorem at15 (w : World) (a : Option Addr) (len cap : Nat) (xs : List Int) (k : Nat) (h : I32s w (.slice a len cap) xs) (hx : A32 xs) (hl : len ≤ 1048576) (hk : k ≤ 1048576) :
    Calls Tryd.prog 15 #[.slice a len cap, .int .i64 k] w fun e w' => e = .returned (.int .i64 (xs.getD k 0)) ∧ w' = w := by
  obtain ⟨p, c, e, hcap, hi⟩ := h
  obtain ⟨rfl, rfl, rfl⟩ : p = a ∧ xs.length = len ∧ c = cap := by cases e; exact ⟨rfl, rfl, rfl⟩
  by_cases hlt : k < xs.length
  · obtain ⟨x, rfl, hc⟩ := hi k hlt
    have hb := hx k
    obtain ⟨y, hy⟩ : ∃ y, xs.getD k 0 = y := ⟨_, rfl⟩
    obtain ⟨n, hn⟩ : ∃ n, xs.length = n := ⟨_, rfl⟩
    rw [hy] at hc hb ⊢
    rw [hn] at hlt hcap ⊢
    clear hi hx e hy hn hl
    go_enter Tryd.func15, Tryd.ntmps15
    go_wp2_with fail
    go_ret
    exact ⟨rfl, rfl⟩
  · have h0 : xs.getD k 0 = 0 := by simp [List.getD, show xs.length ≤ k by omega]
    rw [h0]
    obtain ⟨n, hn⟩ : ∃ n, xs.length = n := ⟨_, rfl⟩
    rw [hn] at hlt hcap ⊢
    clear hi hx e hn hl
    go_enter Tryd.func15, Tryd.ntmps15
    go_wp2_with fail
    go_ret
    exact ⟨rfl, rfl⟩
end Go.Proofs.YtlplikpjnocdfaaDoor
