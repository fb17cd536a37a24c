/-
  Rows of bytes that the code owns; zzHexDigit; a row of bytes made a string.
-/
import Derived.Test.YtcnembabenlheaaDoorT2
import Derived.Laws.BytesArg
import Derived.Laws.Shifts
namespace Go.Proofs.YtcnembabenlheaaDoor
open Go.ChangeShapes Go.WideShapes Go.ChangeAt Go.RowKit
set_option linter.unusedVariables false
theorem ret_int {k : IntKind} {a b : Int} (h : a = b) : Ending.returned (.int k a) = .returned (.int k b) := by rw [h]
set_option maxRecDepth 10000
theorem infoB : (Tryd.prog.info? 5).map (fun i => (i.zero, i.size, i.bytes)) = some (some (.int .u8 0), 1, 1) := by kernel_rfl
theorem sizeB : (Tryd.prog.info? 5).map (·.size) = some 1 := by kernel_rfl
@[go_sem] theorem eqnilB (w : World) (a : Option Addr) (n c : Nat) : (binOp .eql 38 (.slice a n c) (.slice none 0 0)).run Tryd.prog w = .ok (.bool a.isNone) w := Lib.run_eql_slice_nil w 38 5 a n c 0 0 Tryd.underlying38
/-- the bytes xs, as cells -/
def cellsB (xs : List Int) : List Value := xs.map (Value.int .u8)
theorem cellsB_len (xs : List Int) : (cellsB xs).length = xs.length := by simp [cellsB]
theorem cellsB_app (xs ys : List Int) : cellsB (xs ++ ys) = cellsB xs ++ cellsB ys := by simp [cellsB]
theorem cellsB_one (xs : List Int) : ∀ u ∈ cellsB xs, u.oneCell' = true := ints_oneCell .u8 xs
theorem cellsB_get (xs : List Int) (j : Nat) (u : Value) (h : (cellsB xs)[j]? = some u) : j < xs.length ∧ u = .int .u8 (xs.getD j 0) := by
  have hj : j < xs.length := by have := (List.getElem?_eq_some_iff.1 h).1; simpa [cellsB] using this
  refine ⟨hj, ?_⟩
  rw [cellsB, List.getElem?_map, List.getElem?_eq_getElem hj] at h
  simp at h
  rw [← h]; simp [List.getD, hj]
/-- v is a slice of the code's own (its block is B or later) that holds the bytes xs -/
def OwnB (w : World) (B : Nat) (v : Value) (xs : List Int) : Prop := w.ownsRow B 5 1 v xs.length (cellsB xs)
theorem OwnB.out {w : World} {B : Nat} {v : Value} {xs : List Int} (h : OwnB w B v xs) : w.ownsRow B 5 1 v xs.length (cellsB xs) := h
/-- v is a slice that holds the bytes xs -/
def Bytes (w : World) (v : Value) (xs : List Int) : Prop := ∃ p c, v = .slice p xs.length c ∧ xs.length ≤ c ∧ ∀ i, i < xs.length → ∃ a, p = some a ∧ w.cell? (a.add i) = some (.int .u8 (xs.getD i 0))
theorem OwnB.bytes {w : World} {B : Nat} {v : Value} {xs : List Int} (h : OwnB w B v xs) : Bytes w v xs := by
  rcases h with ⟨hl, ⟨rfl, h0⟩ | ⟨g, cap, cur, rfl, hB, hg, hn, hm, hs, ht⟩⟩
  · refine ⟨none, 0, by rw [h0], by omega, fun i hi => absurd hi (by omega)⟩
  · refine ⟨some ⟨g, 0, none⟩, cap, rfl, hn, fun i hi => ⟨_, rfl, ?_⟩⟩
    have e : (cellsB xs)[i]? = some (.int .u8 (xs.getD i 0)) := by simp [cellsB, List.getD, hi]
    rw [← ht, Nat.mul_one, List.getElem?_take, if_pos hi] at e
    rw [Addr.add_lit]
    simp only [World.cell?, hg, Nat.zero_add]
    simpa using e
theorem OwnB.keep {w w' : World} {B : Nat} {v : Value} {xs : List Int} (h : OwnB w B v xs) (hb : Below w.heap.size w w') : OwnB w' B v xs := by
  rcases h with ⟨hl, h0 | ⟨g, cap, cur, rfl, hB, hg, hr⟩⟩
  · exact ⟨hl, Or.inl h0⟩
  · refine ⟨hl, Or.inr ⟨g, cap, cur, rfl, hB, ?_, hr⟩⟩
    rw [hb.block g (by have := (Array.getElem?_eq_some_iff.1 hg).1; exact this)]
    exact hg
theorem OwnB.mono {w : World} {B B' : Nat} {v : Value} {xs : List Int} (h : OwnB w B v xs) (hb : B' ≤ B) : OwnB w B' v xs := by
  rcases h with ⟨hl, h0 | ⟨g, cap, cur, rfl, hB, hr⟩⟩
  · exact ⟨hl, Or.inl h0⟩
  · exact ⟨hl, Or.inr ⟨g, cap, cur, rfl, by omega, hr⟩⟩
theorem Bytes.keep {w w' : World} {v : Value} {xs : List Int} (h : Bytes w v xs) (hb : Below w.heap.size w w') : Bytes w' v xs := by
  obtain ⟨p, c, e, hc, hi⟩ := h
  refine ⟨p, c, e, hc, fun i h => ?_⟩
  obtain ⟨a, ha, hc⟩ := hi i h
  exact ⟨a, ha, by rw [hb.cell (block_lt_of_cell hc)]; exact hc⟩
theorem own_appB {w : World} {B : Nat} {v : Value} {xs : List Int} {b : Int} (h : w.ownsRow B 5 1 v (xs.length + 1) (cellsB xs ++ [.int .u8 b])) : OwnB w B v (xs ++ [b]) := by
  unfold OwnB
  have e1 : (xs ++ [b]).length = xs.length + 1 := by simp
  have e2 : cellsB (xs ++ [b]) = cellsB xs ++ [.int .u8 b] := by simp [cellsB]
  rw [e1, e2]; exact h
theorem own_appB2 {w : World} {B : Nat} {v : Value} {xs : List Int} {b c : Int} (h : w.ownsRow B 5 1 v (xs.length + 2) (cellsB xs ++ [.int .u8 b, .int .u8 c])) : OwnB w B v (xs ++ [b, c]) := by
  unfold OwnB
  have e1 : (xs ++ [b, c]).length = xs.length + 2 := by simp
  have e2 : cellsB (xs ++ [b, c]) = cellsB xs ++ [.int .u8 b, .int .u8 c] := by simp [cellsB]
  rw [e1, e2]; exact h
theorem OwnB.lt {w : World} {B : Nat} {v : Value} {xs : List Int} (h : OwnB w B v xs) : ∀ k, v.ownBlock = some k → B ≤ k := fun k hk => (World.ownsRow.lt h k hk).1
/-- a row of bytes made a string -/
theorem conv_bytes {w : World} {v : Value} {xs : List Int} (h : Bytes w v xs) : (convert 38 9 v).run Tryd.prog w = .ok (.string (strOfNums xs)) w := by
  obtain ⟨p, c, rfl, hc, hi⟩ := h
  cases p with
  | none =>
    obtain rfl : xs = [] := by
      cases xs with
      | nil => rfl
      | cons x r => obtain ⟨a, ha, _⟩ := hi 0 (by simp); cases ha
    exact run_convert_bytes_nil w 38 5 Tryd.underlying38 Tryd.underlying5 _ _ 9 Tryd.underlying9
  | some a =>
    have hf : (convert 38 9 (.slice (some a) xs.length c)).run Tryd.prog w = (Conv.bytesToString (.slice (some a) xs.length c)).run Tryd.prog w := run_convert_bytes_string w 38 9 5 _ _ _ Tryd.underlying38 Tryd.underlying5 Tryd.underlying9
    have hlc : (loadCells a xs.length).run Tryd.prog w = .ok (xs.map (Value.int .u8)).toArray w := by
      have := run_loadCells_list (P := Tryd.prog) w a (xs.map (Value.int .u8)) (fun j v hj => by
        obtain ⟨hjl, rfl⟩ := cellsB_get xs j v (show (cellsB xs)[j]? = some v from hj)
        obtain ⟨a', ha, hcj⟩ := hi j hjl
        obtain rfl : a' = a := by injection ha with ha; exact ha.symm
        exact hcj)
      simpa using this
    rw [hf, run_bytesToString w a xs.length c xs hlc, foldl_push_bytes]
    simp [strOfNums, ByteArray.empty, ByteArray.emptyWithCapacity]
    rfl
/-- a hexadecimal digit -/
def hdig (up : Bool) (d : Int) : Int := if d < 10 then 48 + d else if up then 55 + d else 87 + d
theorem hd19 (d : Int) (up : Bool) (h0 : 0 ≤ d) (h1 : d ≤ 15) (w : World) : Calls Tryd.prog 19 #[.int .u32 d, .bool up] w fun e w' => e = .returned (.int .u8 (hdig up d)) ∧ w = w' := by
  by_cases h : d < 10
  · have e : hdig up d = 48 + d := by simp [hdig, h]
    rw [e]
    go_enter Tryd.func19, Tryd.ntmps19
    go_wp2_with fail
    go_ret
    exact ⟨rfl, rfl⟩
  · cases up
    · have e : hdig false d = 87 + d := by simp [hdig, h]
      rw [e]
      go_enter Tryd.func19, Tryd.ntmps19
      go_wp2_with fail
      go_ret
      exact ⟨ret_int (by omega), rfl⟩
    · have e : hdig true d = 55 + d := by simp [hdig, h]
      rw [e]
      go_enter Tryd.func19, Tryd.ntmps19
      go_wp2_with fail
      go_ret
      exact ⟨ret_int (by omega), rfl⟩
end Go.Proofs.YtcnembabenlheaaDoor
