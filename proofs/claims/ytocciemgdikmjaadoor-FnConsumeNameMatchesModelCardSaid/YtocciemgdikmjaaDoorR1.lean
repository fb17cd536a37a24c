/-
  Rows of bytes that the code owns; zzAppendRuneB4.
-/
import Derived.Test.YtocciemgdikmjaaDoorQ10
import Derived.Laws.BytesArg
import Derived.Laws.Shifts
import Derived.Lib.RuneBytes
import Derived.OwnWalk
namespace Go.Proofs.YtocciemgdikmjaaDoor
open Go.ChangeShapes Go.WideShapes Go.ChangeAt Go.RowKit
open Go.Lib (decodeN decode_at decodeGo encodeRuneZ encodeRuneZ_one encodeRuneZ_two encodeRuneZ_three encodeRuneZ_four encodeRuneZ_bad encodeRuneZ_byte encodeRuneZ_length)
set_option linter.unusedVariables false
theorem below_alloc1 (w : World) (B : Nat) (hB : B ≤ w.heap.size) (o : Obj) : Below B w (w.alloc o) := ((Below.refl w.heap.size w).alloc (Nat.le_refl _) o).mono hB
theorem below_grown {w w' : World} {row : Option Nat} (h : w.grownBy w' row) (B : Nat) (hB : B ≤ w.heap.size) (hr : ∀ k, row = some k → B ≤ k) : Below B w w' :=
  ⟨h.os, h.tape, h.output, h.size, fun k hk => h.block k (by omega) (fun e => by have := hr k e.symm; omega)⟩
theorem ret_int {k : IntKind} {a b : Int} (h : a = b) : Ending.returned (.int k a) = .returned (.int k b) := by rw [h]
set_option maxRecDepth 10000
theorem infoB : (Tryd.prog.info? 5).map (fun i => (i.zero, i.size, i.bytes)) = some (some (.int .u8 0), 1, 1) := by kernel_rfl
theorem sizeB : (Tryd.prog.info? 5).map (·.size) = some 1 := by kernel_rfl
@[go_sem] theorem eqnilB (w : World) (a : Option Addr) (n c : Nat) : (binOp .eql 82 (.slice a n c) (.slice none 0 0)).run Tryd.prog w = .ok (.bool a.isNone) w := Lib.run_eql_slice_nil w 82 5 a n c 0 0 Tryd.underlying82
/-- the bytes xs, as cells -/
def cellsB (xs : List Int) : List Value := xs.map (Value.int .u8)
theorem cellsB_len (xs : List Int) : (cellsB xs).length = xs.length := by simp [cellsB]
theorem cellsB_app (xs ys : List Int) : cellsB (xs ++ ys) = cellsB xs ++ cellsB ys := by simp [cellsB]
theorem cellsB_one (xs : List Int) : ∀ u ∈ cellsB xs, u.oneCell' = true := ints_oneCell .u8 xs
theorem cellsB_get (xs : List Int) (j : Nat) (u : Value) (h : (cellsB xs)[j]? = some u) : j < xs.length ∧ u = .int .u8 (xs.getD j 0) := by
  have hj : j < xs.length := by have := (List.getElem?_eq_some_iff.1 h).1; simpa [cellsB] using this
  refine ⟨hj, ?_⟩
  rw [cellsB, List.getElem?_map, List.getElem?_eq_getElem hj] at h
  simp at h
  rw [← h]; simp [List.getD, hj]
/-- v is a slice of the code's own (its block is B or later) that holds the bytes xs -/
def OwnB (w : World) (B : Nat) (v : Value) (xs : List Int) : Prop := w.ownsRow B 5 1 v xs.length (cellsB xs)
theorem OwnB.out {w : World} {B : Nat} {v : Value} {xs : List Int} (h : OwnB w B v xs) : w.ownsRow B 5 1 v xs.length (cellsB xs) := h
/-- v is a slice that holds the bytes xs -/
def Bytes (w : World) (v : Value) (xs : List Int) : Prop := ∃ p c, v = .slice p xs.length c ∧ xs.length ≤ c ∧ ∀ i, i < xs.length → ∃ a, p = some a ∧ w.cell? (a.add i) = some (.int .u8 (xs.getD i 0))
theorem OwnB.bytes {w : World} {B : Nat} {v : Value} {xs : List Int} (h : OwnB w B v xs) : Bytes w v xs := by
  rcases h with ⟨hl, ⟨rfl, h0⟩ | ⟨g, cap, cur, rfl, hB, hg, hn, hm, hs, ht⟩⟩
  · refine ⟨none, 0, by rw [h0], by omega, fun i hi => absurd hi (by omega)⟩
  · refine ⟨some ⟨g, 0, none⟩, cap, rfl, hn, fun i hi => ⟨_, rfl, ?_⟩⟩
    have e : (cellsB xs)[i]? = some (.int .u8 (xs.getD i 0)) := by simp [cellsB, List.getD, hi]
    rw [← ht, Nat.mul_one, List.getElem?_take, if_pos hi] at e
    rw [Addr.add_lit]
    simp only [World.cell?, hg, Nat.zero_add]
    simpa using e
theorem OwnB.keep {w w' : World} {B : Nat} {v : Value} {xs : List Int} (h : OwnB w B v xs) (hb : Below w.heap.size w w') : OwnB w' B v xs := by
  rcases h with ⟨hl, h0 | ⟨g, cap, cur, rfl, hB, hg, hr⟩⟩
  · exact ⟨hl, Or.inl h0⟩
  · refine ⟨hl, Or.inr ⟨g, cap, cur, rfl, hB, ?_, hr⟩⟩
    rw [hb.block g (by have := (Array.getElem?_eq_some_iff.1 hg).1; exact this)]
    exact hg
theorem OwnB.mono {w : World} {B B' : Nat} {v : Value} {xs : List Int} (h : OwnB w B v xs) (hb : B' ≤ B) : OwnB w B' v xs := by
  rcases h with ⟨hl, h0 | ⟨g, cap, cur, rfl, hB, hr⟩⟩
  · exact ⟨hl, Or.inl h0⟩
  · exact ⟨hl, Or.inr ⟨g, cap, cur, rfl, by omega, hr⟩⟩
theorem Bytes.keep {w w' : World} {v : Value} {xs : List Int} (h : Bytes w v xs) (hb : Below w.heap.size w w') : Bytes w' v xs := by
  obtain ⟨p, c, e, hc, hi⟩ := h
  refine ⟨p, c, e, hc, fun i h => ?_⟩
  obtain ⟨a, ha, hc⟩ := hi i h
  exact ⟨a, ha, by rw [hb.cell (block_lt_of_cell hc)]; exact hc⟩
theorem own_appB {w : World} {B : Nat} {v : Value} {xs : List Int} {b : Int} (h : w.ownsRow B 5 1 v (xs.length + 1) (cellsB xs ++ [.int .u8 b])) : OwnB w B v (xs ++ [b]) := by
  unfold OwnB
  have e1 : (xs ++ [b]).length = xs.length + 1 := by simp
  have e2 : cellsB (xs ++ [b]) = cellsB xs ++ [.int .u8 b] := by simp [cellsB]
  rw [e1, e2]; exact h
theorem own_appB2 {w : World} {B : Nat} {v : Value} {xs : List Int} {b c : Int} (h : w.ownsRow B 5 1 v (xs.length + 2) (cellsB xs ++ [.int .u8 b, .int .u8 c])) : OwnB w B v (xs ++ [b, c]) := by
  unfold OwnB
  have e1 : (xs ++ [b, c]).length = xs.length + 2 := by simp
  have e2 : cellsB (xs ++ [b, c]) = cellsB xs ++ [.int .u8 b, .int .u8 c] := by simp [cellsB]
  rw [e1, e2]; exact h
theorem OwnB.lt {w : World} {B : Nat} {v : Value} {xs : List Int} (h : OwnB w B v xs) : ∀ k, v.ownBlock = some k → B ≤ k := fun k hk => (World.ownsRow.lt h k hk).1
/-- a row of bytes made a string -/
theorem conv_bytes {w : World} {v : Value} {xs : List Int} (h : Bytes w v xs) : (convert 82 9 v).run Tryd.prog w = .ok (.string (strOfNums xs)) w := by
  obtain ⟨p, c, rfl, hc, hi⟩ := h
  cases p with
  | none =>
    obtain rfl : xs = [] := by
      cases xs with
      | nil => rfl
      | cons x r => obtain ⟨a, ha, _⟩ := hi 0 (by simp); cases ha
    exact run_convert_bytes_nil w 82 5 Tryd.underlying82 Tryd.underlying5 _ _ 9 Tryd.underlying9
  | some a =>
    have hf : (convert 82 9 (.slice (some a) xs.length c)).run Tryd.prog w = (Conv.bytesToString (.slice (some a) xs.length c)).run Tryd.prog w := run_convert_bytes_string w 82 9 5 _ _ _ Tryd.underlying82 Tryd.underlying5 Tryd.underlying9
    have hlc : (loadCells a xs.length).run Tryd.prog w = .ok (xs.map (Value.int .u8)).toArray w := by
      have := run_loadCells_list (P := Tryd.prog) w a (xs.map (Value.int .u8)) (fun j v hj => by
        obtain ⟨hjl, rfl⟩ := cellsB_get xs j v (show (cellsB xs)[j]? = some v from hj)
        obtain ⟨a', ha, hcj⟩ := hi j hjl
        obtain rfl : a' = a := by injection ha with ha; exact ha.symm
        exact hcj)
      simpa using this
    rw [hf, run_bytesToString w a xs.length c xs hlc, foldl_push_bytes]
    simp [strOfNums, ByteArray.empty, ByteArray.emptyWithCapacity]
    rfl
theorem enc_bytes (r : Int) : (r ≠ 0 → ∀ x ∈ encodeRuneZ r, x ≠ 0) ∧ (r ≠ 92 → ∀ x ∈ encodeRuneZ r, x ≠ 92) ∧ (¬ (0 ≤ r ∧ r ≤ 127) → ∀ x ∈ encodeRuneZ r, 128 ≤ x) := by
  rcases (show (r < 0 ∨ (55296 ≤ r ∧ r ≤ 57343) ∨ 1114111 < r) ∨ (0 ≤ r ∧ r ≤ 127) ∨ (128 ≤ r ∧ r ≤ 2047) ∨ ((2048 ≤ r ∧ r < 55296) ∨ (57343 < r ∧ r ≤ 65535)) ∨ (65536 ≤ r ∧ r ≤ 1114111) by omega) with h | h | h | h | h
  · rw [encodeRuneZ_bad h]; simp
  · rw [encodeRuneZ_one h.1 h.2]; simp; omega
  · rw [encodeRuneZ_two h.1 h.2]; simp; omega
  · rw [encodeRuneZ_three h]; simp; omega
  · rw [encodeRuneZ_four h.1 h.2]; simp; omega
theorem or_i32 (h l k H : Nat) (hH : h * 2 ^ k = H) (hl : l < 2 ^ k) (hb : H < 2147483648) (hk : 2 ^ k ≤ 2147483648) : bits .or .i32 (H : Int) (l : Int) = (H : Int) + (l : Int) := by
  have := i32_join h l k hl (by omega) hk
  rw [hH] at this; rw [this]; omega
theorem and63 (x : Int) (h0 : 0 ≤ x) (h1 : x < 2147483648) : bits .and .i32 x 63 = x % 64 := by
  obtain ⟨n, rfl⟩ : ∃ n : Nat, x = n := ⟨x.toNat, by omega⟩
  have := i32_mask n 6 63 (by omega) rfl (by omega)
  rw [show ((63 : Nat) : Int) = 63 from rfl] at this
  rw [this]; omega
theorem or128 (x : Int) (h0 : 0 ≤ x) (h1 : x < 64) : bits .or .i32 128 x = 128 + x := by
  obtain ⟨n, rfl⟩ : ∃ n : Nat, x = n := ⟨x.toNat, by omega⟩
  exact or_i32 2 n 6 128 rfl (by omega) (by omega) (by omega)
theorem or192 (x : Int) (h0 : 0 ≤ x) (h1 : x < 32) : bits .or .i32 192 x = 192 + x := by
  obtain ⟨n, rfl⟩ : ∃ n : Nat, x = n := ⟨x.toNat, by omega⟩
  exact or_i32 6 n 5 192 rfl (by omega) (by omega) (by omega)
theorem or224 (x : Int) (h0 : 0 ≤ x) (h1 : x < 16) : bits .or .i32 224 x = 224 + x := by
  obtain ⟨n, rfl⟩ : ∃ n : Nat, x = n := ⟨x.toNat, by omega⟩
  exact or_i32 14 n 4 224 rfl (by omega) (by omega) (by omega)
theorem or240 (x : Int) (h0 : 0 ≤ x) (h1 : x < 8) : bits .or .i32 240 x = 240 + x := by
  obtain ⟨n, rfl⟩ : ∃ n : Nat, x = n := ⟨x.toNat, by omega⟩
  exact or_i32 30 n 3 240 rfl (by omega) (by omega) (by omega)
theorem cells_at (w : World) (l : List Value) (t : TypeId) : ∀ j u, l[j]? = some u → (w.alloc (.cells l.toArray t)).cell? ((⟨w.heap.size, 0, none⟩ : Addr).add j) = some u := by
  intro j u h
  have hh : (w.alloc (.cells l.toArray t)).heap[w.heap.size]? = some (.cells l.toArray t) := by
    show (w.heap.push _)[w.heap.size]? = _
    simp
  rw [Addr.add_lit]
  simp only [World.cell?, hh, Nat.zero_add]
  simpa using h
theorem own_appN {w : World} {B k : Nat} {v : Value} {xs ys : List Int} (h : w.ownsRow B 5 1 v (xs.length + k) (cellsB xs ++ cellsB ys)) (hk : ys.length = k) : OwnB w B v (xs ++ ys) := by
  unfold OwnB
  rw [List.length_append, hk, cellsB_app]; exact h
set_option maxRecDepth 100000 in
set_option maxHeartbeats 4000000 in
theorem ap43_1 (w : World) (B : Nat) (v : Value) (xs : List Int) (c : Int) (h0 : 0 ≤ c) (h1 : c ≤ 127) (hO : OwnB w B v xs) (hB : B ≤ w.heap.size) (hxs : xs.length ≤ 8388608) :
    Calls Tryd.prog 43 #[v, .int .i32 c] w fun e w' => ∃ v', e = .returned v' ∧ OwnB w' B v' (xs ++ encodeRuneZ c) ∧ Below B w w' := by
  obtain ⟨i0, hin, hz0, hz1, hz2⟩ := info_parts infoB
  have HO := Lib.hid hO; have HB := Lib.hid hB
  obtain ⟨n, hn⟩ : ∃ n, xs.length = n := ⟨_, rfl⟩
  have HEQ := Lib.hid (show encodeRuneZ c = [c] by rw [encodeRuneZ_one h0 h1]; (try rfl))
  have hA : (w.alloc (.cells #[.int .u8 c] 5)).ownsRow B 5 1 v n (cellsB xs) := by rw [← hn]; exact World.ownsRow.alloc hO (.cells #[.int .u8 c] 5)
  have HA := Lib.hid hA
  have HN := Lib.hid hn
  rw [hn] at hxs
  clear hO hB hA hn 
  go_enter Tryd.func43, Tryd.ntmps43
  go_wp2_with ((at_builtin; refine wpList_append_own _ rfl _ _ 82 rfl B 5 i0 (.int .u8 0) 1 1 Tryd.underlying82 hin hz0 hz1 hz2 rfl (by decide) v n (cellsB xs) rfl HA.out ⟨w.heap.size, 0, none⟩ 1 1 [.int .u8 c] rfl rfl (cells_at w [.int .u8 c] 5) (by intro u hu; simp at hu; (first | (subst hu; rfl) | (rcases hu with rfl | rfl <;> rfl) | (rcases hu with rfl | rfl | rfl <;> rfl) | (rcases hu with rfl | rfl | rfl | rfl <;> rfl))) (by unfold maxLen; omega) (by omega) (by have := HB.out; simp; omega) ?_; intro v1 w1 hown hg hnil; have O1 := Lib.hid (show OwnB w1 B v1 (xs ++ [c]) by { have h := hown; rw [← HN.out] at h; exact own_appN (ys := [c]) h rfl }); have K1 := Lib.hid ((below_alloc1 w B HB.out (.cells #[.int .u8 c] 5)).trans (below_grown hg B (by have := HB.out; simp; omega) (OwnB.lt HO.out))); clear hown hg hnil))
  go_ret
  exact ⟨_, rfl, by rw [HEQ.out]; exact O1.out, K1.out⟩
set_option maxRecDepth 100000 in
set_option maxHeartbeats 4000000 in
theorem ap43_2 (w : World) (B : Nat) (v : Value) (xs : List Int) (c : Int) (h0 : 128 ≤ c) (h1 : c ≤ 2047) (hO : OwnB w B v xs) (hB : B ≤ w.heap.size) (hxs : xs.length ≤ 8388608) :
    Calls Tryd.prog 43 #[v, .int .i32 c] w fun e w' => ∃ v', e = .returned v' ∧ OwnB w' B v' (xs ++ encodeRuneZ c) ∧ Below B w w' := by
  obtain ⟨i0, hin, hz0, hz1, hz2⟩ := info_parts infoB
  have HO := Lib.hid hO; have HB := Lib.hid hB
  obtain ⟨n, hn⟩ : ∃ n, xs.length = n := ⟨_, rfl⟩
  have t1 : decide (c < 0) = false := by simp; omega
  have t2 : decide (1114111 < c) = false := by simp; omega
  have t3 : decide (55296 ≤ c) = false := by simp; omega
  have u1 : decide (c < 128) = false := by simp; omega
  have u2 : decide (c < 2048) = true := by simp; omega
  have hc0 : 0 ≤ c := by omega
  obtain ⟨x0, hx0⟩ : ∃ x : Int, 192 + c / 64 = x := ⟨_, rfl⟩
  have ax0 : 0 ≤ x0 := by omega
  have bx0 : x0 ≤ 255 := by omega
  obtain ⟨x1, hx1⟩ : ∃ x : Int, 128 + c % 64 = x := ⟨_, rfl⟩
  have ax1 : 0 ≤ x1 := by omega
  have bx1 : x1 ≤ 255 := by omega
  obtain ⟨m0, hm0⟩ : ∃ x : Int, c % 64 = x := ⟨_, rfl⟩
  have am0 : 0 ≤ m0 := by omega
  have bm0 : m0 ≤ 63 := by omega
  have o1 : bits .or .i32 192 (c / 64) = x0 := by rw [or192 _ (by omega) (by omega)]; exact hx0
  have o2 : bits .and .i32 c 63 = m0 := by rw [and63 _ (by omega) (by omega)]; exact hm0
  have o3 : bits .or .i32 128 m0 = x1 := by rw [or128 _ (by omega) (by omega)]; omega
  have HEQ := Lib.hid (show encodeRuneZ c = [x0, x1] by rw [encodeRuneZ_two h0 h1, hx0, hx1]; (try rfl))
  have hA : (w.alloc (.cells #[.int .u8 x0, .int .u8 x1] 5)).ownsRow B 5 1 v n (cellsB xs) := by rw [← hn]; exact World.ownsRow.alloc hO (.cells #[.int .u8 x0, .int .u8 x1] 5)
  have HA := Lib.hid hA
  have HN := Lib.hid hn
  rw [hn] at hxs
  clear hO hB hA hn h0 h1 hx0 hx1 hm0
  go_enter Tryd.func43, Tryd.ntmps43
  go_wp2_with ((at_builtin; refine wpList_append_own _ rfl _ _ 82 rfl B 5 i0 (.int .u8 0) 1 1 Tryd.underlying82 hin hz0 hz1 hz2 rfl (by decide) v n (cellsB xs) rfl HA.out ⟨w.heap.size, 0, none⟩ 2 2 [.int .u8 x0, .int .u8 x1] rfl rfl (cells_at w [.int .u8 x0, .int .u8 x1] 5) (by intro u hu; simp at hu; (first | (subst hu; rfl) | (rcases hu with rfl | rfl <;> rfl) | (rcases hu with rfl | rfl | rfl <;> rfl) | (rcases hu with rfl | rfl | rfl | rfl <;> rfl))) (by unfold maxLen; omega) (by omega) (by have := HB.out; simp; omega) ?_; intro v1 w1 hown hg hnil; have O1 := Lib.hid (show OwnB w1 B v1 (xs ++ [x0, x1]) by { have h := hown; rw [← HN.out] at h; exact own_appN (ys := [x0, x1]) h rfl }); have K1 := Lib.hid ((below_alloc1 w B HB.out (.cells #[.int .u8 x0, .int .u8 x1] 5)).trans (below_grown hg B (by have := HB.out; simp; omega) (OwnB.lt HO.out))); clear hown hg hnil))
  go_ret
  exact ⟨_, rfl, by rw [HEQ.out]; exact O1.out, K1.out⟩
set_option maxRecDepth 100000 in
set_option maxHeartbeats 4000000 in
theorem ap43_3a (w : World) (B : Nat) (v : Value) (xs : List Int) (c : Int) (h0 : 2048 ≤ c) (h1 : c < 55296) (hO : OwnB w B v xs) (hB : B ≤ w.heap.size) (hxs : xs.length ≤ 8388608) :
    Calls Tryd.prog 43 #[v, .int .i32 c] w fun e w' => ∃ v', e = .returned v' ∧ OwnB w' B v' (xs ++ encodeRuneZ c) ∧ Below B w w' := by
  obtain ⟨i0, hin, hz0, hz1, hz2⟩ := info_parts infoB
  have HO := Lib.hid hO; have HB := Lib.hid hB
  obtain ⟨n, hn⟩ : ∃ n, xs.length = n := ⟨_, rfl⟩
  have t1 : decide (c < 0) = false := by simp; omega
  have t2 : decide (1114111 < c) = false := by simp; omega
  have t3 : decide (55296 ≤ c) = false := by simp; omega
  have u1 : decide (c < 128) = false := by simp; omega
  have u2 : decide (c < 2048) = false := by simp; omega
  have u3 : decide (c < 65536) = true := by simp; omega
  have hc0 : 0 ≤ c := by omega
  obtain ⟨x0, hx0⟩ : ∃ x : Int, 224 + c / 4096 = x := ⟨_, rfl⟩
  have ax0 : 0 ≤ x0 := by omega
  have bx0 : x0 ≤ 255 := by omega
  obtain ⟨x1, hx1⟩ : ∃ x : Int, 128 + c / 64 % 64 = x := ⟨_, rfl⟩
  have ax1 : 0 ≤ x1 := by omega
  have bx1 : x1 ≤ 255 := by omega
  obtain ⟨x2, hx2⟩ : ∃ x : Int, 128 + c % 64 = x := ⟨_, rfl⟩
  have ax2 : 0 ≤ x2 := by omega
  have bx2 : x2 ≤ 255 := by omega
  obtain ⟨m1, hm1⟩ : ∃ x : Int, c / 64 % 64 = x := ⟨_, rfl⟩
  have am1 : 0 ≤ m1 := by omega
  have bm1 : m1 ≤ 63 := by omega
  obtain ⟨m0, hm0⟩ : ∃ x : Int, c % 64 = x := ⟨_, rfl⟩
  have am0 : 0 ≤ m0 := by omega
  have bm0 : m0 ≤ 63 := by omega
  have o1 : bits .or .i32 224 (c / 4096) = x0 := by rw [or224 _ (by omega) (by omega)]; exact hx0
  have o2 : bits .and .i32 (c / 64) 63 = m1 := by rw [and63 _ (by omega) (by omega)]; exact hm1
  have o3 : bits .or .i32 128 m1 = x1 := by rw [or128 _ (by omega) (by omega)]; omega
  have o4 : bits .and .i32 c 63 = m0 := by rw [and63 _ (by omega) (by omega)]; exact hm0
  have o5 : bits .or .i32 128 m0 = x2 := by rw [or128 _ (by omega) (by omega)]; omega
  have HEQ := Lib.hid (show encodeRuneZ c = [x0, x1, x2] by rw [encodeRuneZ_three (Or.inl ⟨h0, h1⟩), hx0, hx1, hx2]; (try rfl))
  have hA : (w.alloc (.cells #[.int .u8 x0, .int .u8 x1, .int .u8 x2] 5)).ownsRow B 5 1 v n (cellsB xs) := by rw [← hn]; exact World.ownsRow.alloc hO (.cells #[.int .u8 x0, .int .u8 x1, .int .u8 x2] 5)
  have HA := Lib.hid hA
  have HN := Lib.hid hn
  rw [hn] at hxs
  clear hO hB hA hn h0 h1 hx0 hx1 hx2 hm1 hm0
  go_enter Tryd.func43, Tryd.ntmps43
  go_wp2_with ((at_builtin; refine wpList_append_own _ rfl _ _ 82 rfl B 5 i0 (.int .u8 0) 1 1 Tryd.underlying82 hin hz0 hz1 hz2 rfl (by decide) v n (cellsB xs) rfl HA.out ⟨w.heap.size, 0, none⟩ 3 3 [.int .u8 x0, .int .u8 x1, .int .u8 x2] rfl rfl (cells_at w [.int .u8 x0, .int .u8 x1, .int .u8 x2] 5) (by intro u hu; simp at hu; (first | (subst hu; rfl) | (rcases hu with rfl | rfl <;> rfl) | (rcases hu with rfl | rfl | rfl <;> rfl) | (rcases hu with rfl | rfl | rfl | rfl <;> rfl))) (by unfold maxLen; omega) (by omega) (by have := HB.out; simp; omega) ?_; intro v1 w1 hown hg hnil; have O1 := Lib.hid (show OwnB w1 B v1 (xs ++ [x0, x1, x2]) by { have h := hown; rw [← HN.out] at h; exact own_appN (ys := [x0, x1, x2]) h rfl }); have K1 := Lib.hid ((below_alloc1 w B HB.out (.cells #[.int .u8 x0, .int .u8 x1, .int .u8 x2] 5)).trans (below_grown hg B (by have := HB.out; simp; omega) (OwnB.lt HO.out))); clear hown hg hnil))
  go_ret
  exact ⟨_, rfl, by rw [HEQ.out]; exact O1.out, K1.out⟩
set_option maxRecDepth 100000 in
set_option maxHeartbeats 4000000 in
theorem ap43_3b (w : World) (B : Nat) (v : Value) (xs : List Int) (c : Int) (h0 : 57343 < c) (h1 : c ≤ 65535) (hO : OwnB w B v xs) (hB : B ≤ w.heap.size) (hxs : xs.length ≤ 8388608) :
    Calls Tryd.prog 43 #[v, .int .i32 c] w fun e w' => ∃ v', e = .returned v' ∧ OwnB w' B v' (xs ++ encodeRuneZ c) ∧ Below B w w' := by
  obtain ⟨i0, hin, hz0, hz1, hz2⟩ := info_parts infoB
  have HO := Lib.hid hO; have HB := Lib.hid hB
  obtain ⟨n, hn⟩ : ∃ n, xs.length = n := ⟨_, rfl⟩
  have t1 : decide (c < 0) = false := by simp; omega
  have t2 : decide (1114111 < c) = false := by simp; omega
  have t3 : decide (55296 ≤ c) = true := by simp; omega
  have t4 : decide (c ≤ 57343) = false := by simp; omega
  have u1 : decide (c < 128) = false := by simp; omega
  have u2 : decide (c < 2048) = false := by simp; omega
  have u3 : decide (c < 65536) = true := by simp; omega
  have hc0 : 0 ≤ c := by omega
  obtain ⟨x0, hx0⟩ : ∃ x : Int, 224 + c / 4096 = x := ⟨_, rfl⟩
  have ax0 : 0 ≤ x0 := by omega
  have bx0 : x0 ≤ 255 := by omega
  obtain ⟨x1, hx1⟩ : ∃ x : Int, 128 + c / 64 % 64 = x := ⟨_, rfl⟩
  have ax1 : 0 ≤ x1 := by omega
  have bx1 : x1 ≤ 255 := by omega
  obtain ⟨x2, hx2⟩ : ∃ x : Int, 128 + c % 64 = x := ⟨_, rfl⟩
  have ax2 : 0 ≤ x2 := by omega
  have bx2 : x2 ≤ 255 := by omega
  obtain ⟨m1, hm1⟩ : ∃ x : Int, c / 64 % 64 = x := ⟨_, rfl⟩
  have am1 : 0 ≤ m1 := by omega
  have bm1 : m1 ≤ 63 := by omega
  obtain ⟨m0, hm0⟩ : ∃ x : Int, c % 64 = x := ⟨_, rfl⟩
  have am0 : 0 ≤ m0 := by omega
  have bm0 : m0 ≤ 63 := by omega
  have o1 : bits .or .i32 224 (c / 4096) = x0 := by rw [or224 _ (by omega) (by omega)]; exact hx0
  have o2 : bits .and .i32 (c / 64) 63 = m1 := by rw [and63 _ (by omega) (by omega)]; exact hm1
  have o3 : bits .or .i32 128 m1 = x1 := by rw [or128 _ (by omega) (by omega)]; omega
  have o4 : bits .and .i32 c 63 = m0 := by rw [and63 _ (by omega) (by omega)]; exact hm0
  have o5 : bits .or .i32 128 m0 = x2 := by rw [or128 _ (by omega) (by omega)]; omega
  have HEQ := Lib.hid (show encodeRuneZ c = [x0, x1, x2] by rw [encodeRuneZ_three (Or.inr ⟨h0, h1⟩), hx0, hx1, hx2]; (try rfl))
  have hA : (w.alloc (.cells #[.int .u8 x0, .int .u8 x1, .int .u8 x2] 5)).ownsRow B 5 1 v n (cellsB xs) := by rw [← hn]; exact World.ownsRow.alloc hO (.cells #[.int .u8 x0, .int .u8 x1, .int .u8 x2] 5)
  have HA := Lib.hid hA
  have HN := Lib.hid hn
  rw [hn] at hxs
  clear hO hB hA hn h0 h1 hx0 hx1 hx2 hm1 hm0
  go_enter Tryd.func43, Tryd.ntmps43
  go_wp2_with ((at_builtin; refine wpList_append_own _ rfl _ _ 82 rfl B 5 i0 (.int .u8 0) 1 1 Tryd.underlying82 hin hz0 hz1 hz2 rfl (by decide) v n (cellsB xs) rfl HA.out ⟨w.heap.size, 0, none⟩ 3 3 [.int .u8 x0, .int .u8 x1, .int .u8 x2] rfl rfl (cells_at w [.int .u8 x0, .int .u8 x1, .int .u8 x2] 5) (by intro u hu; simp at hu; (first | (subst hu; rfl) | (rcases hu with rfl | rfl <;> rfl) | (rcases hu with rfl | rfl | rfl <;> rfl) | (rcases hu with rfl | rfl | rfl | rfl <;> rfl))) (by unfold maxLen; omega) (by omega) (by have := HB.out; simp; omega) ?_; intro v1 w1 hown hg hnil; have O1 := Lib.hid (show OwnB w1 B v1 (xs ++ [x0, x1, x2]) by { have h := hown; rw [← HN.out] at h; exact own_appN (ys := [x0, x1, x2]) h rfl }); have K1 := Lib.hid ((below_alloc1 w B HB.out (.cells #[.int .u8 x0, .int .u8 x1, .int .u8 x2] 5)).trans (below_grown hg B (by have := HB.out; simp; omega) (OwnB.lt HO.out))); clear hown hg hnil))
  go_ret
  exact ⟨_, rfl, by rw [HEQ.out]; exact O1.out, K1.out⟩
set_option maxRecDepth 100000 in
set_option maxHeartbeats 4000000 in
theorem ap43_4 (w : World) (B : Nat) (v : Value) (xs : List Int) (c : Int) (h0 : 65536 ≤ c) (h1 : c ≤ 1114111) (hO : OwnB w B v xs) (hB : B ≤ w.heap.size) (hxs : xs.length ≤ 8388608) :
    Calls Tryd.prog 43 #[v, .int .i32 c] w fun e w' => ∃ v', e = .returned v' ∧ OwnB w' B v' (xs ++ encodeRuneZ c) ∧ Below B w w' := by
  obtain ⟨i0, hin, hz0, hz1, hz2⟩ := info_parts infoB
  have HO := Lib.hid hO; have HB := Lib.hid hB
  obtain ⟨n, hn⟩ : ∃ n, xs.length = n := ⟨_, rfl⟩
  have t1 : decide (c < 0) = false := by simp; omega
  have t2 : decide (1114111 < c) = false := by simp; omega
  have t3 : decide (55296 ≤ c) = true := by simp; omega
  have t4 : decide (c ≤ 57343) = false := by simp; omega
  have u1 : decide (c < 128) = false := by simp; omega
  have u2 : decide (c < 2048) = false := by simp; omega
  have u3 : decide (c < 65536) = false := by simp; omega
  have hc0 : 0 ≤ c := by omega
  obtain ⟨x0, hx0⟩ : ∃ x : Int, 240 + c / 262144 = x := ⟨_, rfl⟩
  have ax0 : 0 ≤ x0 := by omega
  have bx0 : x0 ≤ 255 := by omega
  obtain ⟨x1, hx1⟩ : ∃ x : Int, 128 + c / 4096 % 64 = x := ⟨_, rfl⟩
  have ax1 : 0 ≤ x1 := by omega
  have bx1 : x1 ≤ 255 := by omega
  obtain ⟨x2, hx2⟩ : ∃ x : Int, 128 + c / 64 % 64 = x := ⟨_, rfl⟩
  have ax2 : 0 ≤ x2 := by omega
  have bx2 : x2 ≤ 255 := by omega
  obtain ⟨x3, hx3⟩ : ∃ x : Int, 128 + c % 64 = x := ⟨_, rfl⟩
  have ax3 : 0 ≤ x3 := by omega
  have bx3 : x3 ≤ 255 := by omega
  obtain ⟨m2, hm2⟩ : ∃ x : Int, c / 4096 % 64 = x := ⟨_, rfl⟩
  have am2 : 0 ≤ m2 := by omega
  have bm2 : m2 ≤ 63 := by omega
  obtain ⟨m1, hm1⟩ : ∃ x : Int, c / 64 % 64 = x := ⟨_, rfl⟩
  have am1 : 0 ≤ m1 := by omega
  have bm1 : m1 ≤ 63 := by omega
  obtain ⟨m0, hm0⟩ : ∃ x : Int, c % 64 = x := ⟨_, rfl⟩
  have am0 : 0 ≤ m0 := by omega
  have bm0 : m0 ≤ 63 := by omega
  have o1 : bits .or .i32 240 (c / 262144) = x0 := by rw [or240 _ (by omega) (by omega)]; exact hx0
  have o2 : bits .and .i32 (c / 4096) 63 = m2 := by rw [and63 _ (by omega) (by omega)]; exact hm2
  have o3 : bits .or .i32 128 m2 = x1 := by rw [or128 _ (by omega) (by omega)]; omega
  have o4 : bits .and .i32 (c / 64) 63 = m1 := by rw [and63 _ (by omega) (by omega)]; exact hm1
  have o5 : bits .or .i32 128 m1 = x2 := by rw [or128 _ (by omega) (by omega)]; omega
  have o6 : bits .and .i32 c 63 = m0 := by rw [and63 _ (by omega) (by omega)]; exact hm0
  have o7 : bits .or .i32 128 m0 = x3 := by rw [or128 _ (by omega) (by omega)]; omega
  have HEQ := Lib.hid (show encodeRuneZ c = [x0, x1, x2, x3] by rw [encodeRuneZ_four h0 h1, hx0, hx1, hx2, hx3]; (try rfl))
  have hA : (w.alloc (.cells #[.int .u8 x0, .int .u8 x1, .int .u8 x2, .int .u8 x3] 5)).ownsRow B 5 1 v n (cellsB xs) := by rw [← hn]; exact World.ownsRow.alloc hO (.cells #[.int .u8 x0, .int .u8 x1, .int .u8 x2, .int .u8 x3] 5)
  have HA := Lib.hid hA
  have HN := Lib.hid hn
  rw [hn] at hxs
  clear hO hB hA hn h0 h1 hx0 hx1 hx2 hx3 hm2 hm1 hm0
  go_enter Tryd.func43, Tryd.ntmps43
  go_wp2_with ((at_builtin; refine wpList_append_own _ rfl _ _ 82 rfl B 5 i0 (.int .u8 0) 1 1 Tryd.underlying82 hin hz0 hz1 hz2 rfl (by decide) v n (cellsB xs) rfl HA.out ⟨w.heap.size, 0, none⟩ 4 4 [.int .u8 x0, .int .u8 x1, .int .u8 x2, .int .u8 x3] rfl rfl (cells_at w [.int .u8 x0, .int .u8 x1, .int .u8 x2, .int .u8 x3] 5) (by intro u hu; simp at hu; (first | (subst hu; rfl) | (rcases hu with rfl | rfl <;> rfl) | (rcases hu with rfl | rfl | rfl <;> rfl) | (rcases hu with rfl | rfl | rfl | rfl <;> rfl))) (by unfold maxLen; omega) (by omega) (by have := HB.out; simp; omega) ?_; intro v1 w1 hown hg hnil; have O1 := Lib.hid (show OwnB w1 B v1 (xs ++ [x0, x1, x2, x3]) by { have h := hown; rw [← HN.out] at h; exact own_appN (ys := [x0, x1, x2, x3]) h rfl }); have K1 := Lib.hid ((below_alloc1 w B HB.out (.cells #[.int .u8 x0, .int .u8 x1, .int .u8 x2, .int .u8 x3] 5)).trans (below_grown hg B (by have := HB.out; simp; omega) (OwnB.lt HO.out))); clear hown hg hnil))
  go_ret
  exact ⟨_, rfl, by rw [HEQ.out]; exact O1.out, K1.out⟩
set_option maxRecDepth 100000 in
set_option maxHeartbeats 4000000 in
theorem ap43_b (w : World) (B : Nat) (v : Value) (xs : List Int) (c : Int) (h0 : 55296 ≤ c) (h1 : c ≤ 57343) (hO : OwnB w B v xs) (hB : B ≤ w.heap.size) (hxs : xs.length ≤ 8388608) :
    Calls Tryd.prog 43 #[v, .int .i32 c] w fun e w' => ∃ v', e = .returned v' ∧ OwnB w' B v' (xs ++ encodeRuneZ c) ∧ Below B w w' := by
  obtain ⟨i0, hin, hz0, hz1, hz2⟩ := info_parts infoB
  have HO := Lib.hid hO; have HB := Lib.hid hB
  obtain ⟨n, hn⟩ : ∃ n, xs.length = n := ⟨_, rfl⟩
  have t1 : decide (c < 0) = false := by simp; omega
  have t2 : decide (1114111 < c) = false := by simp; omega
  have t3 : decide (55296 ≤ c) = true := by simp; omega
  have t4 : decide (c ≤ 57343) = true := by simp; omega
  have o1 : bits .or .i32 224 15 = 239 := by decide
  have o2 : bits .and .i32 1023 63 = 63 := by decide
  have o3 : bits .or .i32 128 63 = 191 := by decide
  have o4 : bits .and .i32 65533 63 = 61 := by decide
  have o5 : bits .or .i32 128 61 = 189 := by decide
  have HEQ := Lib.hid (show encodeRuneZ c = [239, 191, 189] by rw [encodeRuneZ_bad (Or.inr (Or.inl ⟨h0, h1⟩))]; (try rfl))
  have hA : (w.alloc (.cells #[.int .u8 239, .int .u8 191, .int .u8 189] 5)).ownsRow B 5 1 v n (cellsB xs) := by rw [← hn]; exact World.ownsRow.alloc hO (.cells #[.int .u8 239, .int .u8 191, .int .u8 189] 5)
  have HA := Lib.hid hA
  have HN := Lib.hid hn
  rw [hn] at hxs
  clear hO hB hA hn h0 h1
  go_enter Tryd.func43, Tryd.ntmps43
  go_wp2_with ((at_builtin; refine wpList_append_own _ rfl _ _ 82 rfl B 5 i0 (.int .u8 0) 1 1 Tryd.underlying82 hin hz0 hz1 hz2 rfl (by decide) v n (cellsB xs) rfl HA.out ⟨w.heap.size, 0, none⟩ 3 3 [.int .u8 239, .int .u8 191, .int .u8 189] rfl rfl (cells_at w [.int .u8 239, .int .u8 191, .int .u8 189] 5) (by intro u hu; simp at hu; (first | (subst hu; rfl) | (rcases hu with rfl | rfl <;> rfl) | (rcases hu with rfl | rfl | rfl <;> rfl) | (rcases hu with rfl | rfl | rfl | rfl <;> rfl))) (by unfold maxLen; omega) (by omega) (by have := HB.out; simp; omega) ?_; intro v1 w1 hown hg hnil; have O1 := Lib.hid (show OwnB w1 B v1 (xs ++ [239, 191, 189]) by { have h := hown; rw [← HN.out] at h; exact own_appN (ys := [239, 191, 189]) h rfl }); have K1 := Lib.hid ((below_alloc1 w B HB.out (.cells #[.int .u8 239, .int .u8 191, .int .u8 189] 5)).trans (below_grown hg B (by have := HB.out; simp; omega) (OwnB.lt HO.out))); clear hown hg hnil))
  go_ret
  exact ⟨_, rfl, by rw [HEQ.out]; exact O1.out, K1.out⟩
theorem ap43 (w : World) (B : Nat) (v : Value) (xs : List Int) (c : Int) (h0 : 0 ≤ c) (h1 : c ≤ 1114111) (hO : OwnB w B v xs) (hB : B ≤ w.heap.size) (hxs : xs.length ≤ 8388608) :
    Calls Tryd.prog 43 #[v, .int .i32 c] w fun e w' => ∃ v', e = .returned v' ∧ OwnB w' B v' (xs ++ encodeRuneZ c) ∧ Below B w w' := by
  by_cases a : c ≤ 127
  · exact ap43_1 w B v xs c h0 a hO hB hxs
  by_cases b : c ≤ 2047
  · exact ap43_2 w B v xs c (by omega) b hO hB hxs
  by_cases d : c < 55296
  · exact ap43_3a w B v xs c (by omega) d hO hB hxs
  by_cases e : c ≤ 57343
  · exact ap43_b w B v xs c (by omega) e hO hB hxs
  by_cases f : c ≤ 65535
  · exact ap43_3b w B v xs c (by omega) f hO hB hxs
  · exact ap43_4 w B v xs c (by omega) h1 hO hB hxs
end Go.Proofs.YtocciemgdikmjaaDoor
