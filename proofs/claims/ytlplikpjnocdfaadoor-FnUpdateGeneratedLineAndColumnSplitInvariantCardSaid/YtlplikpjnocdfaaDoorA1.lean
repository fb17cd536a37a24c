/-
  Rows of bytes that the code owns; the alphabet; bits.
-/
import Derived.Test.YtlplikpjnocdfaaDoorRow
namespace Go.Proofs.YtlplikpjnocdfaaDoor
open Go.ChangeShapes Go.WideShapes Go.ChangeAt Go.RowKit
set_option linter.unusedVariables false
theorem ret_bool {a b : Bool} (h : a = b) : Ending.returned (.bool a) = .returned (.bool b) := by rw [h]
theorem info5 : (Tryd.prog.info? 5).map (fun i => (i.zero, i.size, i.bytes)) = some (some (.int .u8 0), 1, 1) := by kernel_rfl
theorem size5 : (Tryd.prog.info? 5).map (·.size) = some 1 := by kernel_rfl
@[go_sem] theorem eqnil34 (w : World) (a : Option Addr) (n c : Nat) : (binOp .eql 34 (.slice a n c) (.slice none 0 0)).run Tryd.prog w = .ok (.bool a.isNone) w := Lib.run_eql_slice_nil w 34 5 a n c 0 0 Tryd.underlying34
/-- the bytes xs, as cells -/
def cellsB (xs : List Int) : List Value := xs.map (Value.int .u8)
theorem cellsB_len (xs : List Int) : (cellsB xs).length = xs.length := by simp [cellsB]
theorem cellsB_app (xs ys : List Int) : cellsB (xs ++ ys) = cellsB xs ++ cellsB ys := by simp [cellsB]
theorem cellsB_one (xs : List Int) : ∀ u ∈ cellsB xs, u.oneCell' = true := ints_oneCell .u8 xs
theorem cellsB_get (xs : List Int) (j : Nat) (u : Value) (h : (cellsB xs)[j]? = some u) : j < xs.length ∧ u = .int .u8 (xs.getD j 0) := by
  have hj : j < xs.length := by have := (List.getElem?_eq_some_iff.1 h).1; simpa [cellsB] using this
  refine ⟨hj, ?_⟩
  rw [cellsB, List.getElem?_map, List.getElem?_eq_getElem hj] at h
  simp at h
  rw [← h]; simp [List.getD, hj]
/-- v is a slice of the code's own (its block is B or later) that holds the bytes xs -/
def OwnB (w : World) (B : Nat) (v : Value) (xs : List Int) : Prop := w.ownsRow B 5 1 v xs.length (cellsB xs)
theorem OwnB.out {w : World} {B : Nat} {v : Value} {xs : List Int} (h : OwnB w B v xs) : w.ownsRow B 5 1 v xs.length (cellsB xs) := h
/-- v is a slice that holds the bytes xs -/
def Bytes (w : World) (v : Value) (xs : List Int) : Prop := ∃ p c, v = .slice p xs.length c ∧ xs.length ≤ c ∧ ∀ i, i < xs.length → ∃ a, p = some a ∧ w.cell? (a.add i) = some (.int .u8 (xs.getD i 0))
theorem OwnB.bytes {w : World} {B : Nat} {v : Value} {xs : List Int} (h : OwnB w B v xs) : Bytes w v xs := by
  rcases h with ⟨hl, ⟨rfl, h0⟩ | ⟨g, cap, cur, rfl, hB, hg, hn, hm, hs, ht⟩⟩
  · refine ⟨none, 0, by rw [h0], by omega, fun i hi => absurd hi (by omega)⟩
  · refine ⟨some ⟨g, 0, none⟩, cap, rfl, hn, fun i hi => ⟨_, rfl, ?_⟩⟩
    have e : (cellsB xs)[i]? = some (.int .u8 (xs.getD i 0)) := by simp [cellsB, List.getD, hi]
    rw [← ht, Nat.mul_one, List.getElem?_take, if_pos hi] at e
    rw [Addr.add_lit]
    simp only [World.cell?, hg, Nat.zero_add]
    simpa using e
theorem OwnB.keep {w w' : World} {B : Nat} {v : Value} {xs : List Int} (h : OwnB w B v xs) (hb : Below w.heap.size w w') : OwnB w' B v xs := by
  rcases h with ⟨hl, h0 | ⟨g, cap, cur, rfl, hB, hg, hr⟩⟩
  · exact ⟨hl, Or.inl h0⟩
  · refine ⟨hl, Or.inr ⟨g, cap, cur, rfl, hB, ?_, hr⟩⟩
    rw [hb.block g (by have := (Array.getElem?_eq_some_iff.1 hg).1; exact this)]
    exact hg
theorem OwnB.mono {w : World} {B B' : Nat} {v : Value} {xs : List Int} (h : OwnB w B v xs) (hb : B' ≤ B) : OwnB w B' v xs := by
  rcases h with ⟨hl, h0 | ⟨g, cap, cur, rfl, hB, hr⟩⟩
  · exact ⟨hl, Or.inl h0⟩
  · exact ⟨hl, Or.inr ⟨g, cap, cur, rfl, by omega, hr⟩⟩
theorem Bytes.keep {w w' : World} {v : Value} {xs : List Int} (h : Bytes w v xs) (hb : Below w.heap.size w w') : Bytes w' v xs := by
  obtain ⟨p, c, e, hc, hi⟩ := h
  refine ⟨p, c, e, hc, fun i h => ?_⟩
  obtain ⟨a, ha, hc⟩ := hi i h
  exact ⟨a, ha, by rw [hb.cell (block_lt_of_cell hc)]; exact hc⟩
theorem below_grown {w w' : World} {row : Option Nat} (h : w.grownBy w' row) (B : Nat) (hB : B ≤ w.heap.size) (hr : ∀ k, row = some k → B ≤ k) : Below B w w' :=
  ⟨h.os, h.tape, h.output, h.size, fun k hk => h.block k (by omega) (fun e => by have := hr k e.symm; omega)⟩
theorem IsRow.bytes {w : World} {a : Option Addr} {len cap : Nat} {z : List Int} (h : IsRow .u8 w a len cap z) : Bytes w (.slice a len cap) (z.take len) ∧ (z.take len).length = len := by
  rcases h with ⟨rfl, rfl, rfl, rfl⟩ | ⟨x, rfl, h1, h2, h3, h4, h5⟩
  · exact ⟨⟨none, 0, rfl, by simp, fun i hi => absurd hi (by simp)⟩, rfl⟩
  · have hl : (z.take len).length = len := by simp; omega
    refine ⟨⟨some x, cap, by rw [hl], by omega, fun i hi => ⟨x, rfl, ?_⟩⟩, hl⟩
    rw [h4 i (by omega)]
    simp [List.getD, show i < len by omega]
theorem made_row (z : Value) (n : Nat) : madeCells #[z] n = (List.replicate n z).toArray := by
  apply Array.ext
  · simp [madeCells]
  · intro i h1 h2
    simp [madeCells, Nat.mod_one]
theorem splice_all {α : Type} (L cs : List α) (h : cs.length = L.length) : splice L 0 cs = cs := by
  simp [splice, h]
/-- the digit that a byte stands for, or -1 -/
def dgt (x : Int) : Int := if 65 ≤ x ∧ x ≤ 90 then x - 65 else if 97 ≤ x ∧ x ≤ 122 then x - 71 else if 48 ≤ x ∧ x ≤ 57 then x + 4 else if x = 43 then 62 else if x = 47 then 63 else -1
theorem dgt_lt (x : Int) : dgt x < 64 := by unfold dgt; repeat' split <;> omega
theorem dgt_ge (x : Int) : -1 ≤ dgt x := by unfold dgt; repeat' split <;> omega
theorem i64_and_nat (a b : Nat) (ha : a < 9223372036854775808) (hb : b < 9223372036854775808) : bits .and .i64 (a : Int) (b : Int) = ((a &&& b : Nat) : Int) := by
  have hx : a &&& b < 2 ^ 63 := Nat.and_lt_two_pow _ (by omega)
  show IntKind.i64.wrap ((BitVec.ofInt 64 (a : Int) &&& BitVec.ofInt 64 (b : Int)).toNat : Int) = _
  rw [BitVec.toNat_and, BitVec.ofInt_natCast, BitVec.toNat_ofNat, BitVec.ofInt_natCast, BitVec.toNat_ofNat, Nat.mod_eq_of_lt (by omega), Nat.mod_eq_of_lt (by omega), IntKind.wrap_i64]
  omega
theorem i64_or_nat (a b : Nat) (ha : a < 9223372036854775808) (hb : b < 9223372036854775808) : bits .or .i64 (a : Int) (b : Int) = ((a ||| b : Nat) : Int) := by
  have hx : a ||| b < 2 ^ 63 := Nat.or_lt_two_pow (by omega) (by omega)
  show IntKind.i64.wrap ((BitVec.ofInt 64 (a : Int) ||| BitVec.ofInt 64 (b : Int)).toNat : Int) = _
  rw [BitVec.toNat_or, BitVec.ofInt_natCast, BitVec.toNat_ofNat, BitVec.ofInt_natCast, BitVec.toNat_ofNat, Nat.mod_eq_of_lt (by omega), Nat.mod_eq_of_lt (by omega), IntKind.wrap_i64]
  omega
theorem and31 (d : Nat) (h : d < 9223372036854775808) : bits .and .i64 (d : Int) 31 = ((d % 32 : Nat) : Int) := by
  rw [show (31 : Int) = ((31 : Nat) : Int) from rfl, i64_and_nat d 31 h (by omega), show (31 : Nat) = 2 ^ 5 - 1 from rfl, Nat.and_two_pow_sub_one_eq_mod]
theorem and1 (d : Nat) (h : d < 9223372036854775808) : bits .and .i64 (d : Int) 1 = ((d % 2 : Nat) : Int) := by
  rw [show (1 : Int) = ((1 : Nat) : Int) from rfl, i64_and_nat d 1 h (by omega), show (1 : Nat) = 2 ^ 1 - 1 from rfl, Nat.and_two_pow_sub_one_eq_mod]
theorem and32 (d : Nat) (h : d < 64) : (bits .and .i64 (d : Int) 32 == 0) = decide (d < 32) := by
  rw [show (32 : Int) = ((32 : Nat) : Int) from rfl, i64_and_nat d 32 (by omega) (by omega)]
  have : ∀ d, d < 64 → ((((d &&& 32 : Nat) : Int)) == 0) = decide (d < 32) := by decide
  exact this d h
theorem or_join (v d k : Nat) (hv : v < 2 ^ k) (hd : d < 32) (hk : k ≤ 30) : bits .or .i64 (v : Int) ((d * 2 ^ k : Nat) : Int) = ((v + d * 2 ^ k : Nat) : Int) := by
  have h1 : 2 ^ k ≤ 2 ^ 30 := Nat.pow_le_pow_right (by omega) hk
  have h2 : d * 2 ^ k ≤ 31 * 2 ^ 30 := Nat.mul_le_mul (by omega) h1
  rw [i64_or_nat v (d * 2 ^ k) (by omega) (by omega), Nat.or_comm]
  have e : d * 2 ^ k ||| v = d * 2 ^ k + v := by
    rw [Nat.mul_comm d (2 ^ k)]
    exact (Nat.two_pow_add_eq_or_of_lt hv d).symm
  rw [e, Nat.add_comm]
def b64i : List Int := b64.map fun (n : Nat) => (n : Int)
/-- the table, in a world -/
structure Tab (w : World) (R o c : Nat) : Prop where
  var : w.cell? ⟨0, 0, none⟩ = some (.slice (some ⟨R, o, none⟩) 64 c)
  row : ∀ j, j < 64 → w.cell? ⟨R, o + j, none⟩ = some (.int .u8 (b64i.getD j 0))
theorem tab_in {w : World} (h : Lib.TabSlice 0 .u8 b64 w) : ∃ R o c, Tab w R o c := by
  obtain ⟨R, o, c, h1, h2⟩ := h
  refine ⟨R, o, c, h1, fun j hj => ?_⟩
  rw [h2 j hj]
  have hl : b64.length = 64 := by decide
  have : b64i.getD j 0 = ((b64.getD j 0 : Nat) : Int) := by
    simp [b64i, List.getD, show j < b64.length by omega]
  rw [this]
theorem Tab.below {w w' : World} {R o c : Nat} (h : Tab w R o c) (hb : Below w.heap.size w w') : Tab w' R o c :=
  ⟨by rw [hb.cell (block_lt_of_cell h.var)]; exact h.var, fun j hj => by rw [hb.cell (block_lt_of_cell (h.row j hj))]; exact h.row j hj⟩
/-- the byte of digit d -/
def chr (d : Nat) : Int := b64i.getD d 0
/-- at most f digits of V, the lowest first, all but the last with the continuation bit -/
def encF : Nat → Nat → List Int
  | 0, _ => []
  | f + 1, V => if V < 32 then [chr V] else chr (V % 32 + 32) :: encF f (V / 32)
def enc (V : Nat) : List Int := encF 7 V
/-- the value that stands for a number -/
def zig (a : Int) : Nat := if a < 0 then 2 * (-a).toNat + 1 else 2 * a.toNat
/-- the table, in blocks ahead of B -/
structure TabB (w : World) (B R o c : Nat) : Prop where
  tab : Tab w R o c
  r : R < B
  z : 0 < B
theorem TabB.below {w w' : World} {B R o c : Nat} (h : TabB w B R o c) (hb : Below B w w') : TabB w' B R o c :=
  ⟨⟨by rw [hb.cell h.z]; exact h.tab.var, fun j hj => by rw [hb.cell h.r]; exact h.tab.row j hj⟩, h.r, h.z⟩
theorem TabB.of {w : World} {R o c : Nat} (h : Tab w R o c) : TabB w w.heap.size R o c :=
  ⟨h, block_lt_of_cell (h.row 0 (by omega)), block_lt_of_cell h.var⟩
theorem own_app {w : World} {B : Nat} {v : Value} {xs : List Int} {b : Int} (h : w.ownsRow B 5 1 v (xs.length + 1) (cellsB xs ++ [.int .u8 b])) : OwnB w B v (xs ++ [b]) := by
  unfold OwnB
  have e1 : (xs ++ [b]).length = xs.length + 1 := by simp
  have e2 : cellsB (xs ++ [b]) = cellsB xs ++ [.int .u8 b] := by simp [cellsB]
  rw [e1, e2]; exact h
theorem OwnB.lt {w : World} {B : Nat} {v : Value} {xs : List Int} (h : OwnB w B v xs) : ∀ k, v.ownBlock = some k → B ≤ k := fun k hk => (World.ownsRow.lt h k hk).1
theorem below_alloc1 (w : World) (B : Nat) (hB : B ≤ w.heap.size) (o : Obj) : Below B w (w.alloc o) := ((Below.refl w.heap.size w).alloc (Nat.le_refl _) o).mono hB
theorem cell_one (w : World) (v : Value) (t : TypeId) : ∀ j u, [v][j]? = some u → (w.alloc (.cells #[v] t)).cell? ((⟨w.heap.size, 0, none⟩ : Addr).add j) = some u := by
  intro j u h
  have hj : j = 0 := by have := (List.getElem?_eq_some_iff.1 h).1; simp at this; exact this
  subst hj
  have hv : v = u := by simpa using h
  subst hv
  have hh : (w.alloc (.cells #[v] t)).heap[w.heap.size]? = some (.cells #[v] t) := heap_alloc_new _ _
  rw [Addr.add_lit]
  simp only [World.cell?, hh]
  rfl
theorem or32 (d : Nat) (h : d < 32) : bits .or .i64 (d : Int) 32 = ((d + 32 : Nat) : Int) := by
  rw [show (32 : Int) = ((32 : Nat) : Int) from rfl, i64_or_nat d 32 (by omega) (by omega)]
  have : ∀ d, d < 32 → (d ||| 32) = d + 32 := by decide
  rw [this d h]
theorem or1 (m : Nat) (h : m < 4611686018427387904) : bits .or .i64 ((2 * m : Nat) : Int) 1 = ((2 * m + 1 : Nat) : Int) := by
  rw [show (1 : Int) = ((1 : Nat) : Int) from rfl, i64_or_nat (2 * m) 1 (by omega) (by omega)]
  have := Nat.two_pow_add_eq_or_of_lt (i := 1) (b := 1) (by omega) m
  simp at this
  rw [this]
theorem encF_len : ∀ f V, (encF f V).length ≤ f
  | 0, _ => by simp [encF]
  | f + 1, V => by
    unfold encF
    split
    · simp
    · have := encF_len f (V / 32)
      simp; omega
theorem enc_le (V : Nat) : (enc V).length ≤ 7 := encF_len 7 V
/-- of what was there nothing but the row of v has turned; the row of v' is that row or a new one -/
structure Mv (w w' : World) (v v' : Value) : Prop where
  g : w.grownBy w' v.ownBlock
  at_ : v'.ownBlock = v.ownBlock ∨ ∃ k, v'.ownBlock = some k ∧ w.heap.size ≤ k
theorem Mv.refl (w : World) (v : Value) : Mv w w v v := ⟨⟨rfl, rfl, rfl, Nat.le_refl _, fun _ _ _ => rfl⟩, Or.inl rfl⟩
theorem Mv.trans {w w1 w2 : World} {v v1 v2 : Value} (h : Mv w w1 v v1) (h' : Mv w1 w2 v1 v2) : Mv w w2 v v2 := by
  have hs := h.g.size
  refine ⟨⟨h'.g.os.trans h.g.os, h'.g.tape.trans h.g.tape, h'.g.output.trans h.g.output, Nat.le_trans hs h'.g.size, fun k hk hn => ?_⟩, ?_⟩
  · rw [h'.g.block k (by omega) ?_]
    · exact h.g.block k hk hn
    · rcases h.at_ with e | ⟨j, e, hj⟩
      · rw [e]; exact hn
      · rw [e]; intro e'; injection e' with e'; omega
  · rcases h'.at_ with e | ⟨j, e, hj⟩
    · rcases h.at_ with e1 | ⟨j, e1, hj⟩
      · exact Or.inl (e.trans e1)
      · exact Or.inr ⟨j, e.trans e1, hj⟩
    · exact Or.inr ⟨j, e, by omega⟩
theorem Mv.alloc (w : World) (v : Value) (o : Obj) : Mv w (w.alloc o) v v :=
  ⟨⟨rfl, rfl, rfl, by simp, fun k hk _ => heap_alloc_old w o hk⟩, Or.inl rfl⟩
theorem Mv.drew {w w' : World} {v v' : Value} (h : Mv w w' v v') : Mv w w'.drew v v' := ⟨⟨h.g.os, h.g.tape, h.g.output, h.g.size, h.g.block⟩, h.at_⟩
theorem Mv.app {w w1 : World} {v v1 : Value} {o : Obj} (hg : (w.alloc o).grownBy w1 v.ownBlock) (hat : v1.ownBlock = v.ownBlock ∨ v1.ownBlock = some (w.alloc o).heap.size) : Mv w w1 v v1 := by
  refine (Mv.alloc w v o).trans ⟨hg, ?_⟩
  rcases hat with e | e
  · exact Or.inl e
  · exact Or.inr ⟨_, e, Nat.le_refl _⟩
/-- a call that only makes new blocks -/
theorem Mv.of_below {w w' : World} (v : Value) (h : Below w.heap.size w w') : Mv w w' v v := ⟨⟨h.os, h.tape, h.output, h.size, fun k hk _ => h.block k hk⟩, Or.inl rfl⟩
theorem Mv.below {w w' : World} {v v' : Value} (h : Mv w w' v v') (B : Nat) (hB : B ≤ w.heap.size) (hr : ∀ k, v.ownBlock = some k → B ≤ k) : Below B w w' := below_grown h.g B hB hr
theorem OwnB.ne {w : World} {B : Nat} {v : Value} {xs : List Int} (hO : OwnB w B v xs) {b : Nat} {c : Array Value} {t : TypeId} {fr : Nat × Nat} (hb : w.heap[b]? = some (Obj.cells c t fr)) (ht : t ≠ 5) : some b ≠ v.ownBlock := by
  rcases hO with ⟨_, ⟨rfl, _⟩ | ⟨g, cap, cur, rfl, _, hgc, _⟩⟩
  · intro e; cases e
  · intro e
    have : b = g := by simpa [Value.ownBlock] using e
    subst this
    rw [hb] at hgc
    injection hgc with hgc
    injection hgc with _ h2
    exact ht h2
/-- a block of another kind stays -/
theorem Mv.keep {w w' : World} {v v' : Value} (h : Mv w w' v v') {B : Nat} {xs : List Int} (hO : OwnB w B v xs) {b : Nat} {c : Array Value} {t : TypeId} {fr : Nat × Nat} (hb : w.heap[b]? = some (Obj.cells c t fr)) (ht : t ≠ 5) : w'.heap[b]? = some (Obj.cells c t fr) :=
  (h.g.block b (Array.getElem?_eq_some_iff.1 hb).1 (hO.ne hb ht)).trans hb
theorem OwnB.old {w : World} {B : Nat} {v : Value} {xs : List Int} (h : OwnB w B v xs) : ∀ k, v.ownBlock = some k → k < w.heap.size := fun k hk => (World.ownsRow.lt h k hk).2
end Go.Proofs.YtlplikpjnocdfaaDoor
