/-
  Rows of bytes that the code owns; zzCloneB3; zzSameBytesB3.
-/
import Derived.Test.YtbigamkmkmfdfaaDoorRow
namespace Go.Proofs.YtbigamkmkmfdfaaDoor
open Go.ChangeShapes Go.WideShapes Go.ChangeAt Go.RowKit
set_option linter.unusedVariables false
theorem ret_bool {a b : Bool} (h : a = b) : Ending.returned (.bool a) = .returned (.bool b) := by rw [h]
theorem info5 : (Tryd.prog.info? 5).map (fun i => (i.zero, i.size, i.bytes)) = some (some (.int .u8 0), 1, 1) := by kernel_rfl
theorem size5 : (Tryd.prog.info? 5).map (·.size) = some 1 := by kernel_rfl
@[go_sem] theorem eqnil22 (w : World) (a : Option Addr) (n c : Nat) : (binOp .eql 22 (.slice a n c) (.slice none 0 0)).run Tryd.prog w = .ok (.bool a.isNone) w := Lib.run_eql_slice_nil w 22 5 a n c 0 0 Tryd.underlying22
/-- the bytes xs, as cells -/
def cellsB (xs : List Int) : List Value := xs.map (Value.int .u8)
theorem cellsB_len (xs : List Int) : (cellsB xs).length = xs.length := by simp [cellsB]
theorem cellsB_app (xs ys : List Int) : cellsB (xs ++ ys) = cellsB xs ++ cellsB ys := by simp [cellsB]
theorem cellsB_one (xs : List Int) : ∀ u ∈ cellsB xs, u.oneCell' = true := ints_oneCell .u8 xs
theorem cellsB_get (xs : List Int) (j : Nat) (u : Value) (h : (cellsB xs)[j]? = some u) : j < xs.length ∧ u = .int .u8 (xs.getD j 0) := by
  have hj : j < xs.length := by have := (List.getElem?_eq_some_iff.1 h).1; simpa [cellsB] using this
  refine ⟨hj, ?_⟩
  rw [cellsB, List.getElem?_map, List.getElem?_eq_getElem hj] at h
  simp at h
  rw [← h]; simp [List.getD, hj]
/-- v is a slice of the code's own (its block is B or later) that holds the bytes xs -/
def OwnB (w : World) (B : Nat) (v : Value) (xs : List Int) : Prop := w.ownsRow B 5 1 v xs.length (cellsB xs)
theorem OwnB.out {w : World} {B : Nat} {v : Value} {xs : List Int} (h : OwnB w B v xs) : w.ownsRow B 5 1 v xs.length (cellsB xs) := h
/-- v is a slice that holds the bytes xs -/
def Bytes (w : World) (v : Value) (xs : List Int) : Prop := ∃ p c, v = .slice p xs.length c ∧ xs.length ≤ c ∧ ∀ i, i < xs.length → ∃ a, p = some a ∧ w.cell? (a.add i) = some (.int .u8 (xs.getD i 0))
theorem OwnB.bytes {w : World} {B : Nat} {v : Value} {xs : List Int} (h : OwnB w B v xs) : Bytes w v xs := by
  rcases h with ⟨hl, ⟨rfl, h0⟩ | ⟨g, cap, cur, rfl, hB, hg, hn, hm, hs, ht⟩⟩
  · refine ⟨none, 0, by rw [h0], by omega, fun i hi => absurd hi (by omega)⟩
  · refine ⟨some ⟨g, 0, none⟩, cap, rfl, hn, fun i hi => ⟨_, rfl, ?_⟩⟩
    have e : (cellsB xs)[i]? = some (.int .u8 (xs.getD i 0)) := by simp [cellsB, List.getD, hi]
    rw [← ht, Nat.mul_one, List.getElem?_take, if_pos hi] at e
    rw [Addr.add_lit]
    simp only [World.cell?, hg, Nat.zero_add]
    simpa using e
theorem OwnB.keep {w w' : World} {B : Nat} {v : Value} {xs : List Int} (h : OwnB w B v xs) (hb : Below w.heap.size w w') : OwnB w' B v xs := by
  rcases h with ⟨hl, h0 | ⟨g, cap, cur, rfl, hB, hg, hr⟩⟩
  · exact ⟨hl, Or.inl h0⟩
  · refine ⟨hl, Or.inr ⟨g, cap, cur, rfl, hB, ?_, hr⟩⟩
    rw [hb.block g (by have := (Array.getElem?_eq_some_iff.1 hg).1; exact this)]
    exact hg
theorem OwnB.mono {w : World} {B B' : Nat} {v : Value} {xs : List Int} (h : OwnB w B v xs) (hb : B' ≤ B) : OwnB w B' v xs := by
  rcases h with ⟨hl, h0 | ⟨g, cap, cur, rfl, hB, hr⟩⟩
  · exact ⟨hl, Or.inl h0⟩
  · exact ⟨hl, Or.inr ⟨g, cap, cur, rfl, by omega, hr⟩⟩
theorem Bytes.keep {w w' : World} {v : Value} {xs : List Int} (h : Bytes w v xs) (hb : Below w.heap.size w w') : Bytes w' v xs := by
  obtain ⟨p, c, e, hc, hi⟩ := h
  refine ⟨p, c, e, hc, fun i h => ?_⟩
  obtain ⟨a, ha, hc⟩ := hi i h
  exact ⟨a, ha, by rw [hb.cell (block_lt_of_cell hc)]; exact hc⟩
theorem below_grown {w w' : World} {row : Option Nat} (h : w.grownBy w' row) (B : Nat) (hB : B ≤ w.heap.size) (hr : ∀ k, row = some k → B ≤ k) : Below B w w' :=
  ⟨h.os, h.tape, h.output, h.size, fun k hk => h.block k (by omega) (fun e => by have := hr k e.symm; omega)⟩
theorem IsRow.bytes {w : World} {a : Option Addr} {len cap : Nat} {z : List Int} (h : IsRow .u8 w a len cap z) : Bytes w (.slice a len cap) (z.take len) ∧ (z.take len).length = len := by
  rcases h with ⟨rfl, rfl, rfl, rfl⟩ | ⟨x, rfl, h1, h2, h3, h4, h5⟩
  · exact ⟨⟨none, 0, rfl, by simp, fun i hi => absurd hi (by simp)⟩, rfl⟩
  · have hl : (z.take len).length = len := by simp; omega
    refine ⟨⟨some x, cap, by rw [hl], by omega, fun i hi => ⟨x, rfl, ?_⟩⟩, hl⟩
    rw [h4 i (by omega)]
    simp [List.getD, show i < len by omega]
theorem made_row (z : Value) (n : Nat) : madeCells #[z] n = (List.replicate n z).toArray := by
  apply Array.ext
  · simp [madeCells]
  · intro i h1 h2
    simp [madeCells, Nat.mod_one]
theorem splice_all {α : Type} (L cs : List α) (h : cs.length = L.length) : splice L 0 cs = cs := by
  simp [splice, h]
set_option maxRecDepth 100000 in
set_option maxHeartbeats 1000000 in
/-- zzCloneB3: the same bytes in a row of its own, of just that capacity -/
theorem clone10 (w : World) (a : Option Addr) (len cap : Nat) (xs : List Int) (h : Bytes w (.slice a len cap) xs) (hl : len ≤ 1048576) :
    Calls Tryd.prog 10 #[.slice a len cap] w fun e w' => ∃ p, e = .returned (.slice p len len) ∧ OwnB w' w.heap.size (.slice p len len) xs ∧ Below w.heap.size w w' := by
  obtain ⟨p, c, e, hcap, hi⟩ := h
  obtain ⟨rfl, rfl, rfl⟩ : p = a ∧ xs.length = len ∧ c = cap := by cases e; exact ⟨rfl, rfl, rfl⟩
  obtain ⟨i0, hin, hz0, hs, hb⟩ := info_parts info5
  cases p with
  | none =>
    have h0 : xs = [] := by
      cases xs with
      | nil => rfl
      | cons x xs => obtain ⟨a, ha, _⟩ := hi 0 (by simp); cases ha
    subst h0
    go_enter Tryd.func10, Tryd.ntmps10
    go_wp2_with fail
    go_ret
    exact ⟨none, rfl, ⟨by simp [cellsB], Or.inl ⟨rfl, rfl⟩⟩, Below.refl _ _⟩
  | some x =>
    have hcell : ∀ i, i < xs.length → w.cell? (x.add i) = some (.int .u8 (xs.getD i 0)) := by
      intro i h
      obtain ⟨a, ha, hc⟩ := hi i h
      cases ha
      exact hc
    have HC := Lib.hid hcell
    clear hi hcell e
    go_enter Tryd.func10, Tryd.ntmps10
    have hb0 : Below w.heap.size w (w.alloc (.cells (madeCells #[.int .u8 0] xs.length) 5)) := (Below.refl _ _).alloc (Nat.le_refl _) _
    have HG := Lib.hid (show (w.alloc (.cells (madeCells #[.int .u8 0] xs.length) 5)).heap[w.heap.size]? = some (.cells (List.replicate xs.length (Value.int .u8 0)).toArray 5 (0, 0)) by rw [made_row]; exact heap_alloc_new _ _)
    have HS := Lib.hid (show ∀ j v, (cellsB xs)[j]? = some v → (w.alloc (.cells (madeCells #[.int .u8 0] xs.length) 5)).cell? (x.add j) = some v from
      fun j v hv => by
        obtain ⟨hj, rfl⟩ := cellsB_get xs j v hv
        have := HC.out j hj
        rw [hb0.cell (block_lt_of_cell this)]; exact this)
    have HB0 := Lib.hid hb0
    have HL := Lib.hid (cellsB_len xs)
    clear hb0
    go_wp2_with (first | (at_make; refine wpList_make_row _ rfl _ _ 22 rfl 5 i0 (.int .u8 0) Tryd.underlying22 hin hz0 hs rfl _ _ xs.length rfl rfl (by rw [hb]; omega) (by omega) ?_) | (refine wpList_copy_splice rfl (.tmp 9) (.tmp 10) 22 22 rfl 5 Tryd.underlying22 size5 _ _ _ _ _ _ rfl rfl w.heap.size 0 (List.replicate xs.length (.int .u8 0)) 5 HG.out (cellsB xs) (by rw [HL.out]; exact (Nat.min_self _).symm) (fun _ => ⟨rfl, x, rfl, HS.out⟩) (by rw [HL.out]; simp) (cellsB_one xs) w.heap.size w HB0.out (Nat.le_refl _) ?_; intro w' hw' hb'))
    go_ret
    refine ⟨_, rfl, ⟨by rw [HL.out]; simp, Or.inr ⟨w.heap.size, xs.length, _, rfl, Nat.le_refl _, hw'.out, Nat.le_refl _, by unfold maxLen; omega, ?_, ?_⟩⟩, hb'⟩
    · rw [splice_all _ _ (by rw [HL.out]; simp)]; simp [HL.out]
    · rw [splice_all _ _ (by rw [HL.out]; simp)]; exact List.take_of_length_le (by rw [HL.out]; omega)
set_option maxRecDepth 100000 in
set_option maxHeartbeats 1000000 in
/-- zzSameBytesB3: the same bytes? -/
theorem same20 (w : World) (v1 v2 : Value) (xs ys : List Int) (h1 : Bytes w v1 xs) (h2 : Bytes w v2 ys) (l1 : xs.length ≤ 1048576) (l2 : ys.length ≤ 1048576) :
    Calls Tryd.prog 20 #[v1, v2] w fun e w' => (∃ b, e = .returned (.bool b) ∧ (b = true ↔ xs = ys)) ∧ ∃ n, w' = w.drewN n := by
  obtain ⟨p1, c1, rfl, hc1, hi1⟩ := h1
  obtain ⟨p2, c2, rfl, hc2, hi2⟩ := h2
  have H1 := Lib.hid hi1; have H2 := Lib.hid hi2
  clear hi1 hi2
  by_cases hl : xs.length = ys.length
  · obtain ⟨n, hn⟩ : ∃ n, xs.length = n := ⟨_, rfl⟩
    have HN := Lib.hid hn; have HM := Lib.hid (hl.symm.trans hn)
    rw [HN.out, HM.out]
    rw [HN.out] at l1 hc1
    rw [HM.out] at hc2
    clear hl hn l2
    go_enter Tryd.func20, Tryd.ntmps20
    go_wp2_with fail
    go_loopw [5] (fun a w' => ∃ i m : Nat, a = .int .i64 i ∧ w' = w.drewN m ∧ i ≤ n ∧ ∀ k, k < i → xs.getD k 0 = ys.getD k 0) (fun a w' => n - (intOf a).toNat)
    case atStart => exact ⟨0, 0, rfl, rfl, by omega, fun k hk => absurd hk (by omega)⟩
    case round =>
      obtain ⟨i, m, rfl, rfl, hi, hall⟩ := hrel
      have HA := Lib.hid hall; clear hall
      by_cases hlt : i < n
      · obtain ⟨x1, rfl, e1⟩ := H1.out i (by have := HN.out; omega)
        obtain ⟨x2, rfl, e2⟩ := H2.out i (by have := HM.out; omega)
        obtain ⟨A, hA⟩ : ∃ A, xs.getD i 0 = A := ⟨_, rfl⟩
        obtain ⟨B, hB⟩ : ∃ B, ys.getD i 0 = B := ⟨_, rfl⟩
        rw [hA] at e1
        rw [hB] at e2
        have HAi := Lib.hid hA; have HBi := Lib.hid hB
        clear hA hB
        by_cases he : A = B
        · subst he
          go_wp2_with fail
          go_quiet (fail)
          go_wp2_with fail
          go_roundw
          case rel =>
            refine ⟨i + 1, _, by simp, rfl, by omega, fun k hk => ?_⟩
            by_cases hki : k < i
            · exact HA.out k hki
            · obtain rfl : k = i := by omega
              rw [HAi.out, HBi.out]
          case measure => simp only [intOf]; omega
        · have d : (A != B) = true := by simp [he]
          have HE := Lib.hid he; clear he
          go_wp2_with fail
          go_quiet (fail)
          go_wp2_with fail
          go_ret
          refine ⟨⟨false, rfl, fun h => (by cases h), fun h => ?_⟩, _, World.drewN_drewN _ _ _⟩
          exact absurd (by rw [← HAi.out, ← HBi.out, h]) HE.out
      · obtain rfl : i = n := by omega
        go_wp2_with fail
        go_ret
        refine ⟨⟨true, rfl, fun _ => ?_, fun _ => rfl⟩, _, rfl⟩
        apply List.ext_getElem (HN.out.trans HM.out.symm)
        intro k hk1 hk2
        have := HA.out k (by have := HN.out; omega)
        simpa [List.getD, hk1, hk2] using this
  · have d : ((xs.length : Int) != (ys.length : Int)) = true := by simp; omega
    have HE := Lib.hid hl; clear hl
    go_enter Tryd.func20, Tryd.ntmps20
    go_wp2_with fail
    go_ret
    exact ⟨⟨false, rfl, fun h => (by cases h), fun h => absurd (by rw [h]) HE.out⟩, 0, rfl⟩
end Go.Proofs.YtbigamkmkmfdfaaDoor
