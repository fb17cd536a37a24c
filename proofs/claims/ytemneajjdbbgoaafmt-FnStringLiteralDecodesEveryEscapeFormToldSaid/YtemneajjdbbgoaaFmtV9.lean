/-
  The clones, the lexer made, StringLiteral.
-/
import Derived.Test.YtemneajjdbbgoaaFmtV3
import Derived.Test.YtemneajjdbbgoaaFmtV8
namespace Go.Proofs.YtemneajjdbbgoaaFmt
open Go.ChangeShapes Go.WideShapes Go.ChangeAt Go.RowKit
set_option linter.unusedVariables false
theorem made_row (z : Value) (n : Nat) : madeCells #[z] n = (List.replicate n z).toArray := by
  apply Array.ext
  · simp [madeCells]
  · intro i h1 h2
    simp [madeCells, Nat.mod_one]
/-- v is a slice that holds the numbers (bools, bytes) xs, each laid as f says -/
def RowOf {α : Type} (f : α → Value) (d : α) (w : World) (v : Value) (xs : List α) : Prop := ∃ p c, v = .slice p xs.length c ∧ xs.length ≤ c ∧ ∀ i, i < xs.length → ∃ a, p = some a ∧ w.cell? (a.add i) = some (f (xs.getD i d))
section
variable {α : Type} {f : α → Value} {d : α}
theorem RowOf.keep {w w' : World} {v : Value} {xs : List α} (h : RowOf f d w v xs) (hb : Below w.heap.size w w') : RowOf f d w' v xs := by
  obtain ⟨p, c, e, hc, hi⟩ := h
  refine ⟨p, c, e, hc, fun i h => ?_⟩
  obtain ⟨a, ha, hc⟩ := hi i h
  exact ⟨a, ha, by rw [hb.cell (block_lt_of_cell hc)]; exact hc⟩
/-- a row of the code's own, all of it in block g -/
def RowG (f : α → Value) (T : TypeId) (w : World) (g : Nat) (zs : List α) : Prop := w.heap[g]? = some (.cells (zs.map f).toArray T (0, 0))
theorem RowG.eq {T : TypeId} {w : World} {g : Nat} {zs : List α} (h : RowG f T w g zs) : w.heap[g]? = some (.cells (zs.map f).toArray T (0, 0)) := h
theorem RowG.cell {T : TypeId} {w : World} {g : Nat} {zs : List α} (h : RowG f T w g zs) {j : Nat} (hj : j < zs.length) : w.cell? ⟨g, j, none⟩ = some (f (zs.getD j d)) := by
  have : (zs.map f).toArray[j]? = some (f (zs.getD j d)) := by simp [hj, List.getD]
  simp only [World.cell?, h.eq]
  exact this
theorem RowG.frozen {T : TypeId} {w : World} {g : Nat} {zs : List α} (h : RowG f T w g zs) (j : Nat) : w.frozen? ⟨g, j, none⟩ = false := by
  simp [World.frozen?, h.eq]
theorem RowG.set {T : TypeId} {w : World} {g : Nat} {zs : List α} (h : RowG f T w g zs) (j : Nat) (v : α) : RowG f T (w.setCell ⟨g, j, none⟩ (f v)) g (zs.set j v) := by
  unfold RowG
  rw [heap_setCell_same w g j (zs.map f).toArray T (f v) h.eq]
  simp [List.map_set]
theorem RowG.row {T : TypeId} {w : World} {g : Nat} {zs : List α} (h : RowG f T w g zs) : RowOf f d w (.slice (some ⟨g, 0, none⟩) zs.length zs.length) zs :=
  ⟨_, _, rfl, Nat.le_refl _, fun i hi => ⟨_, rfl, by rw [Addr.add_lit, Nat.zero_add]; exact h.cell hi⟩⟩
theorem RowG.made {T : TypeId} (w : World) (n : Nat) (z : α) : RowG f T (w.alloc (.cells (madeCells #[f z] n) T)) w.heap.size (List.replicate n z) := by
  refine (heap_alloc_new _ _).trans ?_
  rw [made_row]
  simp
theorem fill_setG (zs : List α) (z : α) (n k : Nat) (hz : n ≤ zs.length) (hk : k < n) : (zs.take k ++ List.replicate (n - k) z).set k (zs.getD k d) = zs.take (k + 1) ++ List.replicate (n - (k + 1)) z := by
  have h1 : (zs.take k).length = k := by simp; omega
  have h2 : n - k = (n - (k + 1)) + 1 := by omega
  rw [List.set_append_right _ _ (by omega), h1, Nat.sub_self, h2, List.replicate_succ, List.set_cons_zero, List.take_succ_eq_append_getElem (show k < zs.length by omega)]
  have h3 : zs.getD k d = zs[k]'(by omega) := by simp [show k < zs.length by omega]
  rw [h3, List.append_assoc]
  rfl
end
abbrev U16s := RowOf (Value.int .u16) (0 : Int)
abbrev U8s := RowOf (Value.int .u8) (0 : Int)
theorem U16s.units {w : World} {v : Value} {xs : List Int} (h : U16s w v xs) : Units w v xs := h
theorem U8s.bytes {w : World} {v : Value} {xs : List Int} (h : U8s w v xs) : Bytes w v xs := h
set_option maxRecDepth 100000 in
set_option maxHeartbeats 1000000 in
theorem cl5 (w : World) (a : Option Addr) (len cap : Nat) (xs : List Int) (h : U16s w (.slice a len cap) xs) (hl : len ≤ 1048576) :
    Calls Tryf.prog 5 #[.slice a len cap] w fun e w' => ∃ p, e = .returned (.slice p len len) ∧ U16s w' (.slice p len len) xs ∧ Below w.heap.size w w' := by
  obtain ⟨p, c, e, hcap, hi⟩ := h
  obtain ⟨rfl, rfl, rfl⟩ : p = a ∧ xs.length = len ∧ c = cap := by cases e; exact ⟨rfl, rfl, rfl⟩
  obtain ⟨i0, hin, hz0, hs, hb⟩ := info_parts infoU
  cases p with
  | none =>
    have h0 : xs = [] := by
      cases xs with
      | nil => rfl
      | cons x xs => obtain ⟨a, ha, _⟩ := hi 0 (by simp); cases ha
    subst h0
    go_enter Tryf.func5, Tryf.ntmps5
    go_wp2_with fail
    go_ret
    exact ⟨none, rfl, ⟨none, 0, rfl, Nat.le_refl _, fun i hi => absurd hi (by simp)⟩, Below.refl _ _⟩
  | some x =>
    have hcell : ∀ i, i < xs.length → w.cell? (x.add i) = some (Value.int .u16 (xs.getD i 0)) := by
      intro i h
      obtain ⟨a, ha, hc⟩ := hi i h
      cases ha
      exact hc
    have HC := Lib.hid hcell
    clear hi hcell e
    obtain ⟨n, hn⟩ : ∃ n, xs.length = n := ⟨_, rfl⟩
    have HN := Lib.hid hn
    rw [hn] at hl hcap ⊢
    clear hn
    go_enter Tryf.func5, Tryf.ntmps5
    go_wp2_with (at_make; refine wpList_make_row _ rfl _ _ 22 rfl 33 i0 (Value.int .u16 0) Tryf.underlying22 hin hz0 hs rfl _ _ n rfl rfl (by rw [hb]; omega) (by omega) ?_)
    go_loopw [4] (fun i wr => ∃ k : Nat, k ≤ n ∧ i = .int .i64 k ∧ Hid (RowG (Value.int .u16) 33 wr w.heap.size (xs.take k ++ List.replicate (n - k) 0)) ∧ Hid (Below w.heap.size w wr)) (fun i _ => n - (intOf i).toNat)
    case atStart => exact ⟨0, by omega, rfl, Lib.hid (RowG.made w n 0), Lib.hid ((Below.refl _ _).alloc (Nat.le_refl _) _)⟩
    case round =>
      obtain ⟨k, hk, rfl, HR, HG⟩ := hrel
      by_cases hlt : k < n
      · have q : wr.cell? (x.add k) = some (Value.int .u16 (xs.getD k 0)) := by
          have := HC.out k (by have := HN.out; omega)
          rw [HG.out.cell (block_lt_of_cell this)]; exact this
        have hl : k < (xs.take k ++ List.replicate (n - k) (0 : Int)).length := by have := HN.out; simp; omega
        have hd := HR.out.cell (d := 0) hl
        have hf := HR.out.frozen k
        obtain ⟨v, hv⟩ : ∃ v, xs.getD k 0 = v := ⟨_, rfl⟩
        rw [hv] at q
        obtain ⟨o, ho⟩ : ∃ o, (xs.take k ++ List.replicate (n - k) (0 : Int)).getD k 0 = o := ⟨_, rfl⟩
        rw [ho] at hd
        have HV := Lib.hid hv
        clear hv hl ho
        go_wp2
        go_roundw
        case rel => exact ⟨k + 1, by omega, by go_num, by rw [← fill_setG (d := 0) xs 0 n k (by have := HN.out; omega) hlt, HV.out]; exact Lib.hid (HR.out.set _ _), Lib.hid (HG.out.setCell (Nat.le_refl _) _)⟩
        case measure => simp only [intOf]; omega
      · obtain rfl : k = n := by omega
        go_wp2_with fail
        go_ret
        refine ⟨_, rfl, ?_, HG.out⟩
        have hr := HR.out
        rw [Nat.sub_self, List.replicate_zero, List.append_nil, List.take_of_length_le (by have := HN.out; omega)] at hr
        have := hr.row (d := 0)
        rw [HN.out] at this
        exact this
set_option maxRecDepth 100000 in
set_option maxHeartbeats 1000000 in
theorem cl6 (w : World) (a : Option Addr) (len cap : Nat) (xs : List Int) (h : U8s w (.slice a len cap) xs) (hl : len ≤ 1048576) :
    Calls Tryf.prog 6 #[.slice a len cap] w fun e w' => ∃ p, e = .returned (.slice p len len) ∧ U8s w' (.slice p len len) xs ∧ Below w.heap.size w w' := by
  obtain ⟨p, c, e, hcap, hi⟩ := h
  obtain ⟨rfl, rfl, rfl⟩ : p = a ∧ xs.length = len ∧ c = cap := by cases e; exact ⟨rfl, rfl, rfl⟩
  obtain ⟨i0, hin, hz0, hs, hb⟩ := info_parts infoB
  cases p with
  | none =>
    have h0 : xs = [] := by
      cases xs with
      | nil => rfl
      | cons x xs => obtain ⟨a, ha, _⟩ := hi 0 (by simp); cases ha
    subst h0
    go_enter Tryf.func6, Tryf.ntmps6
    go_wp2_with fail
    go_ret
    exact ⟨none, rfl, ⟨none, 0, rfl, Nat.le_refl _, fun i hi => absurd hi (by simp)⟩, Below.refl _ _⟩
  | some x =>
    have hcell : ∀ i, i < xs.length → w.cell? (x.add i) = some (Value.int .u8 (xs.getD i 0)) := by
      intro i h
      obtain ⟨a, ha, hc⟩ := hi i h
      cases ha
      exact hc
    have HC := Lib.hid hcell
    clear hi hcell e
    obtain ⟨n, hn⟩ : ∃ n, xs.length = n := ⟨_, rfl⟩
    have HN := Lib.hid hn
    rw [hn] at hl hcap ⊢
    clear hn
    go_enter Tryf.func6, Tryf.ntmps6
    go_wp2_with (at_make; refine wpList_make_row _ rfl _ _ 23 rfl 5 i0 (Value.int .u8 0) Tryf.underlying23 hin hz0 hs rfl _ _ n rfl rfl (by rw [hb]; omega) (by omega) ?_)
    go_loopw [4] (fun i wr => ∃ k : Nat, k ≤ n ∧ i = .int .i64 k ∧ Hid (RowG (Value.int .u8) 5 wr w.heap.size (xs.take k ++ List.replicate (n - k) 0)) ∧ Hid (Below w.heap.size w wr)) (fun i _ => n - (intOf i).toNat)
    case atStart => exact ⟨0, by omega, rfl, Lib.hid (RowG.made w n 0), Lib.hid ((Below.refl _ _).alloc (Nat.le_refl _) _)⟩
    case round =>
      obtain ⟨k, hk, rfl, HR, HG⟩ := hrel
      by_cases hlt : k < n
      · have q : wr.cell? (x.add k) = some (Value.int .u8 (xs.getD k 0)) := by
          have := HC.out k (by have := HN.out; omega)
          rw [HG.out.cell (block_lt_of_cell this)]; exact this
        have hl : k < (xs.take k ++ List.replicate (n - k) (0 : Int)).length := by have := HN.out; simp; omega
        have hd := HR.out.cell (d := 0) hl
        have hf := HR.out.frozen k
        obtain ⟨v, hv⟩ : ∃ v, xs.getD k 0 = v := ⟨_, rfl⟩
        rw [hv] at q
        obtain ⟨o, ho⟩ : ∃ o, (xs.take k ++ List.replicate (n - k) (0 : Int)).getD k 0 = o := ⟨_, rfl⟩
        rw [ho] at hd
        have HV := Lib.hid hv
        clear hv hl ho
        go_wp2
        go_roundw
        case rel => exact ⟨k + 1, by omega, by go_num, by rw [← fill_setG (d := 0) xs 0 n k (by have := HN.out; omega) hlt, HV.out]; exact Lib.hid (HR.out.set _ _), Lib.hid (HG.out.setCell (Nat.le_refl _) _)⟩
        case measure => simp only [intOf]; omega
      · obtain rfl : k = n := by omega
        go_wp2_with fail
        go_ret
        refine ⟨_, rfl, ?_, HG.out⟩
        have hr := HR.out
        rw [Nat.sub_self, List.replicate_zero, List.append_nil, List.take_of_length_le (by have := HN.out; omega)] at hr
        have := hr.row (d := 0)
        rw [HN.out] at this
        exact this
theorem zb4 (w : World) (p q : Option Addr) (n c m d : Nat) : Calls Tryf.prog 4 #[.slice p n c, .slice q m d] w fun e w' => (∃ b, e = .returned (.bool b)) ∧ w = w' := by
  by_cases h1 : n ≤ 1048576
  · by_cases h2 : m ≤ 1048576
    · by_cases h3 : n + m ≤ 1048576
      · go_enter Tryf.func4, Tryf.ntmps4
        go_wp2_with fail
        go_ret
        exact ⟨⟨_, rfl⟩, rfl⟩
      · go_enter Tryf.func4, Tryf.ntmps4
        go_wp2_with fail
        go_ret
        exact ⟨⟨_, rfl⟩, rfl⟩
    · go_enter Tryf.func4, Tryf.ntmps4
      go_wp2_with fail
      go_ret
      exact ⟨⟨_, rfl⟩, rfl⟩
  · go_enter Tryf.func4, Tryf.ntmps4
    go_wp2_with fail
    go_ret
    exact ⟨⟨_, rfl⟩, rfl⟩
noncomputable def lexE (c : ByteArray) : Array Value := (Tryf.prog.built 83 [(31, .int .u8 2), (32, .int .u8 5), (13, .string c), (16, .int .i64 1)]).getD #[]
theorem lexE_37 (c : ByteArray) : (lexE c)[37]? = some (.slice none 0 0) := by kernel_rfl
theorem lexE_38 (c : ByteArray) : (lexE c)[38]? = some (.string c) := by kernel_rfl
theorem lexE_50 (c : ByteArray) : (lexE c)[50]? = some (.int .i64 1) := by kernel_rfl
theorem lexE_68 (c : ByteArray) : (lexE c)[68]? = some (.int .u8 2) := by kernel_rfl
/-- a lexer that has the text c to decode -/
def EncLex (w : World) (g : Nat) (c : ByteArray) : Prop := w.heap[g]? = some (.cells (lexE c) 83 (0, 0))
theorem EncLex.eq {w : World} {g : Nat} {c : ByteArray} (h : EncLex w g c) : w.heap[g]? = some (.cells (lexE c) 83 (0, 0)) := h
theorem EncLex.lt {w : World} {g : Nat} {c : ByteArray} (h : EncLex w g c) : g < w.heap.size := (Array.getElem?_eq_some_iff.1 h.eq).1
theorem EncLex.keep {w w' : World} {g : Nat} {c : ByteArray} (h : EncLex w g c) (hb : Below w.heap.size w w') : EncLex w' g c := by
  unfold EncLex; rw [hb.block g h.lt]; exact h
theorem EncLex.cell {w : World} {g : Nat} {c : ByteArray} (h : EncLex w g c) (k : Nat) (v : Value) (hv : (lexE c)[k]? = some v) : w.cell? ⟨g, k, none⟩ = some v := by
  simp only [World.cell?, h.eq]; exact hv
theorem EncLex.frozen {w : World} {g : Nat} {c : ByteArray} (h : EncLex w g c) (k : Nat) : w.frozen? ⟨g, k, none⟩ = false := by
  simp [World.frozen?, h.eq]
set_option maxRecDepth 100000 in
set_option maxHeartbeats 4000000 in
theorem ex8 (c : ByteArray) (w : World) :
    Calls Tryf.prog 8 #[.string c] w fun r w' => (∃ g, r = .returned (.pointer (some ⟨g, 0, none⟩)) ∧ EncLex w' g c ∧ w.heap.size ≤ g) ∧ Below w.heap.size w w' := by
  go_enter Tryf.func8, Tryf.ntmps8
  go_wp2_with (refine wpList_buildTo rfl 83 #[(31, .const (.int .u8 2)), (32, .const (.int .u8 5)), (13, .tmp 3), (16, .const (.int .i64 1))] rfl (some 4) rfl (lexE c) (by kernel_rfl) ?_)
  go_ret
  exact ⟨⟨_, rfl, heap_alloc_new _ _, Nat.le_refl _⟩, (Below.refl w.heap.size w).alloc (Nat.le_refl _) _⟩
theorem OwnU.set {w : World} {B : Nat} {v : Value} {xs : List Int} (h : OwnU w B v xs) (g k : Nat) (hg : g < B) (u : Value) : OwnU (w.setCell ⟨g, k, none⟩ u) B v xs := by
  rcases h with ⟨hl, h0 | ⟨g', cap, cur, rfl, hB, hgc, hr⟩⟩
  · exact ⟨hl, Or.inl h0⟩
  · refine ⟨hl, Or.inr ⟨g', cap, cur, rfl, hB, ?_, hr⟩⟩
    rw [heap_setCell_other w ⟨g, k, none⟩ g' u (by show g' ≠ g; omega)]
    exact hgc
theorem below_drew (w : World) : Below w.heap.size w w.drew := ⟨rfl, rfl, rfl, Nat.le_refl _, fun _ _ => rfl⟩
set_option maxRecDepth 100000 in
set_option maxHeartbeats 4000000 in
/-- the first call decodes -/
theorem sl9a (g : Nat) (w : World) (c : ByteArray) (us : List Int) (hL : EncLex w g c) (hT : Lib.Utf8Tabs 0 1 w) (hs : c.size ≤ 1048576) (hch : Ch32 c 0 us) :
    Calls Tryf.prog 9 #[.pointer (some ⟨g, 0, none⟩)] w fun e w' => ∃ v, e = .returned v ∧ NN v ∧ OwnU w' (g + 1) v us ∧ w'.cell? ⟨g, 37, none⟩ = some v ∧ Below g w w' := by
  have HL := Lib.hid hL; have HT := Lib.hid hT
  have HH : Hid (∀ (W : World), Below w.heap.size w W → Calls Tryf.prog 18 #[.pointer (some ⟨g, 0, none⟩), .int .i64 1, .string c, .bool true] W fun e w' => ∃ v, e = .returned (.tuple #[v, .bool true, .int .i64 0]) ∧ Hid (OwnU w' w.heap.size v us ∧ NN v ∧ Below w.heap.size w w')) := Lib.hid (by
    intro W hb
    refine (dc18 g 1 c true W (tabs_below hT hb) hs ⟨by omega, by omega⟩ ((hL.keep hb).cell 68 _ (lexE_68 c)) us hch).mono ?_
    rintro e w' ⟨⟨v, rfl, ho, hn⟩, be⟩
    exact ⟨v, rfl, Lib.hid ⟨ho.mono hb.size, hn, hb.trans (be.mono hb.size)⟩⟩)
  have c37 := hL.cell 37 _ (lexE_37 c)
  have c38 := hL.cell 38 _ (lexE_38 c)
  have c50 := hL.cell 50 _ (lexE_50 c)
  clear hL hT hch
  go_enter Tryf.func9, Tryf.ntmps9
  go_upto_region 2 with fail
  go_cut [3, 4] (fun v3 v4 wx => v4 = .bool true ∧ Hid (OwnU wx w.heap.size v3 us ∧ NN v3 ∧ Below w.heap.size w wx))
  case first =>
    go_region_with ((go_at_call 18; refine (HH.out _ (below_drew w)).mono ?_; rintro e w1 ⟨v, rfl, hr⟩; have HR := Lib.hid hr; clear hr))
    all_goals
      go_wp2_with fail
      go_meet
      exact ⟨rfl, HR.out⟩
  case rest =>
    obtain ⟨rfl, HR⟩ := hcut
    obtain ⟨a, n, cc, hv⟩ := HR.out.2.1
    subst hv
    have hL1 := HL.out.keep HR.out.2.2
    have k37 := hL1.cell 37 _ (lexE_37 c)
    have f37 := hL1.frozen 37
    have HL1 := Lib.hid hL1
    clear hL1 c37 c38 c50
    go_wp2_with fail
    go_ret
    have hlt := HL.out.lt
    refine ⟨_, rfl, HR.out.2.1, ?_, ?_, ?_⟩
    · exact (HR.out.1.mono hlt).set g 37 (by omega) _
    · have hs37 := (Array.getElem?_eq_some_iff.1 (lexE_37 c)).1
      simp only [World.cell?, heap_setCell_same wc g 37 _ _ _ HL1.out.eq]
      simp [hs37]
    · exact (HR.out.2.2.mono (Nat.le_of_lt hlt)).setCell (Nat.le_refl _) _
set_option maxRecDepth 100000 in
set_option maxHeartbeats 4000000 in
/-- the next call hands the row out again -/
theorem sl9b (g : Nat) (w : World) (v : Value) (hv : w.cell? ⟨g, 37, none⟩ = some v) (hn : NN v) :
    Calls Tryf.prog 9 #[.pointer (some ⟨g, 0, none⟩)] w fun e w' => e = .returned v ∧ w = w' := by
  obtain ⟨a, n, c, rfl⟩ := hn
  go_enter Tryf.func9, Tryf.ntmps9
  go_wp2_with fail
  go_ret
  exact ⟨rfl, rfl⟩
end Go.Proofs.YtemneajjdbbgoaaFmt
