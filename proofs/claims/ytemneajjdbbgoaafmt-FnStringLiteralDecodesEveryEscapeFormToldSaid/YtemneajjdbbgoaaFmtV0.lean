/-
  Decoding, rows of units and of bytes, digits.
-/
import Derived.Test.YtemneajjdbbgoaaFmtShelf
import Derived.WalkKit
import Derived.ProofKit
import Derived.OpenShut
import Derived.Lib.Hide
import Derived.Lib.SliceRun
import Derived.Lib.DecodeN
import Derived.Outline
import Derived.WalkLawsBesides
import Derived.Laws.Tables
import Derived.Great.BuildSlice
import Derived.Deep.QuietTactic
import Derived.Deep.Draws
import Derived.BigQuiet
import Derived.Deep.RegionWith
import Derived.Laws.Rows
import Derived.Laws.AppendOwn
import Derived.Laws.CopyOwn
import Derived.RegionTactic
import Derived.OwnWalk
import Derived.Deep.OwnRows
import Derived.Below
import Derived.Deep.DeepCutAuto
import Derived.LoopN
import Derived.WalkMore
namespace Go.Proofs.YtemneajjdbbgoaaFmt
open Go.ChangeShapes Go.WideShapes Go.ChangeAt Go.RowKit
open Go.Lib (decodeN decode_at decodeGo)
set_option linter.unusedVariables false
/-- decoding by the acceptance table -/
def zd (n b0 b1 b2 b3 : Nat) : Nat × Nat :=
  if b0 < 128 then (b0, 1)
  else if 194 ≤ b0 ∧ b0 ≤ 223 then (if 2 ≤ n ∧ 128 ≤ b1 ∧ b1 ≤ 191 then (b0 % 32 * 64 + b1 % 64, 2) else (65533, 1))
  else if 224 ≤ b0 ∧ b0 ≤ 239 then (if 3 ≤ n ∧ (if b0 = 224 then 160 else 128) ≤ b1 ∧ b1 ≤ (if b0 = 237 then 159 else 191) ∧ 128 ≤ b2 ∧ b2 ≤ 191 then (b0 % 16 * 4096 + b1 % 64 * 64 + b2 % 64, 3) else (65533, 1))
  else if 240 ≤ b0 ∧ b0 ≤ 244 then (if 4 ≤ n ∧ (if b0 = 240 then 144 else 128) ≤ b1 ∧ b1 ≤ (if b0 = 244 then 143 else 191) ∧ 128 ≤ b2 ∧ b2 ≤ 191 ∧ 128 ≤ b3 ∧ b3 ≤ 191 then (b0 % 8 * 262144 + b1 % 64 * 4096 + b2 % 64 * 64 + b3 % 64, 4) else (65533, 1))
  else (65533, 1)
theorem zd_eq (n b0 b1 b2 b3 : Nat) (h0 : b0 < 256) (h1 : b1 < 256) (h2 : b2 < 256) (h3 : b3 < 256) : zd n b0 b1 b2 b3 = decodeN n b0 b1 b2 b3 := by
  unfold zd decodeN
  by_cases a0 : b0 < 128
  · rw [if_pos a0, if_pos a0]
  rw [if_neg a0, if_neg a0]
  by_cases c1 : 194 ≤ b0 ∧ b0 ≤ 223
  · rw [if_pos c1]
    by_cases c : 2 ≤ n ∧ 128 ≤ b1 ∧ b1 ≤ 191
    · rw [if_pos c, if_pos (by omega), if_pos (by omega)]
    · rw [if_neg c]
      by_cases d : b0 / 32 = 6 ∧ 1 < n ∧ b1 / 64 = 2
      · exfalso; omega
      · rw [if_neg d, if_neg (by omega), if_neg (by omega)]
  rw [if_neg c1]
  by_cases c2 : 224 ≤ b0 ∧ b0 ≤ 239
  · rw [if_pos c2]
    rw [if_neg (show ¬ (b0 / 32 = 6 ∧ 1 < n ∧ b1 / 64 = 2) by omega)]
    by_cases c : 3 ≤ n ∧ (if b0 = 224 then 160 else 128) ≤ b1 ∧ b1 ≤ (if b0 = 237 then 159 else 191) ∧ 128 ≤ b2 ∧ b2 ≤ 191
    · rw [if_pos c]
      have d : b0 / 16 = 14 ∧ (1 < n ∧ b1 / 64 = 2) ∧ (2 < n ∧ b2 / 64 = 2) := by split at c <;> split at c <;> omega
      rw [if_pos d, if_pos (by split at c <;> split at c <;> omega)]
    · rw [if_neg c]
      by_cases d : b0 / 16 = 14 ∧ (1 < n ∧ b1 / 64 = 2) ∧ (2 < n ∧ b2 / 64 = 2)
      · rw [if_pos d, if_neg (by split at c <;> split at c <;> omega)]
      · rw [if_neg d, if_neg (by omega)]
  rw [if_neg c2]
  by_cases c3 : 240 ≤ b0 ∧ b0 ≤ 244
  · rw [if_pos c3]
    rw [if_neg (show ¬ (b0 / 32 = 6 ∧ 1 < n ∧ b1 / 64 = 2) by omega), if_neg (show ¬ (b0 / 16 = 14 ∧ (1 < n ∧ b1 / 64 = 2) ∧ (2 < n ∧ b2 / 64 = 2)) by omega)]
    by_cases c : 4 ≤ n ∧ (if b0 = 240 then 144 else 128) ≤ b1 ∧ b1 ≤ (if b0 = 244 then 143 else 191) ∧ 128 ≤ b2 ∧ b2 ≤ 191 ∧ 128 ≤ b3 ∧ b3 ≤ 191
    · rw [if_pos c]
      have d : b0 / 8 = 30 ∧ (1 < n ∧ b1 / 64 = 2) ∧ (2 < n ∧ b2 / 64 = 2) ∧ (3 < n ∧ b3 / 64 = 2) := by split at c <;> split at c <;> omega
      rw [if_pos d, if_pos (by split at c <;> split at c <;> omega)]
    · rw [if_neg c]
      by_cases d : b0 / 8 = 30 ∧ (1 < n ∧ b1 / 64 = 2) ∧ (2 < n ∧ b2 / 64 = 2) ∧ (3 < n ∧ b3 / 64 = 2)
      · rw [if_pos d, if_neg (by split at c <;> split at c <;> omega)]
      · rw [if_neg d]
  rw [if_neg c3]
  by_cases d1 : b0 / 32 = 6 ∧ 1 < n ∧ b1 / 64 = 2
  · rw [if_pos d1, if_neg (by omega)]
  rw [if_neg d1, if_neg (by omega)]
  by_cases d3 : b0 / 8 = 30 ∧ (1 < n ∧ b1 / 64 = 2) ∧ (2 < n ∧ b2 / 64 = 2) ∧ (3 < n ∧ b3 / 64 = 2)
  · rw [if_pos d3, if_neg (by omega)]
  · rw [if_neg d3]
theorem i32_and_nat (a b : Nat) (ha : a < 2147483648) (hb : b < 2147483648) : bits .and .i32 (a : Int) (b : Int) = ((a &&& b : Nat) : Int) := by
  have hx : a &&& b < 2 ^ 31 := Nat.and_lt_two_pow _ (by omega)
  show IntKind.i32.wrap ((BitVec.ofInt 32 (a : Int) &&& BitVec.ofInt 32 (b : Int)).toNat : Int) = _
  rw [BitVec.toNat_and, BitVec.ofInt_natCast, BitVec.toNat_ofNat, BitVec.ofInt_natCast, BitVec.toNat_ofNat, Nat.mod_eq_of_lt (by omega), Nat.mod_eq_of_lt (by omega), IntKind.wrap_i32]
  omega
theorem i32_or_nat (a b : Nat) (ha : a < 2147483648) (hb : b < 2147483648) : bits .or .i32 (a : Int) (b : Int) = ((a ||| b : Nat) : Int) := by
  have hx : a ||| b < 2 ^ 31 := Nat.or_lt_two_pow (by omega) (by omega)
  show IntKind.i32.wrap ((BitVec.ofInt 32 (a : Int) ||| BitVec.ofInt 32 (b : Int)).toNat : Int) = _
  rw [BitVec.toNat_or, BitVec.ofInt_natCast, BitVec.toNat_ofNat, BitVec.ofInt_natCast, BitVec.toNat_ofNat, Nat.mod_eq_of_lt (by omega), Nat.mod_eq_of_lt (by omega), IntKind.wrap_i32]
  omega
theorem u8_and_nat (a b : Nat) (ha : a < 256) (hb : b < 256) : bits .and .u8 (a : Int) (b : Int) = ((a &&& b : Nat) : Int) := by
  have hx : a &&& b < 2 ^ 8 := Nat.and_lt_two_pow _ (by omega)
  show IntKind.u8.wrap ((BitVec.ofInt 8 (a : Int) &&& BitVec.ofInt 8 (b : Int)).toNat : Int) = _
  rw [BitVec.toNat_and, BitVec.ofInt_natCast, BitVec.toNat_ofNat, BitVec.ofInt_natCast, BitVec.toNat_ofNat, Nat.mod_eq_of_lt (by omega), Nat.mod_eq_of_lt (by omega), IntKind.wrap_u8]
  omega
theorem u8_mask (a k m : Nat) (ha : a < 256) (hm : m = 2 ^ k - 1) (hb : m < 256) : bits .and .u8 (a : Int) (m : Int) = ((a % 2 ^ k : Nat) : Int) := by
  rw [u8_and_nat a m ha hb, hm, Nat.and_two_pow_sub_one_eq_mod]
theorem i32_mask (a k m : Nat) (ha : a < 2147483648) (hm : m = 2 ^ k - 1) (hb : m < 2147483648) : bits .and .i32 (a : Int) (m : Int) = ((a % 2 ^ k : Nat) : Int) := by
  rw [i32_and_nat a m ha hb, hm, Nat.and_two_pow_sub_one_eq_mod]
theorem i32_join (h l k : Nat) (hl : l < 2 ^ k) (hb : h * 2 ^ k < 2147483648) (hk : 2 ^ k ≤ 2147483648) : bits .or .i32 ((h * 2 ^ k : Nat) : Int) (l : Int) = ((h * 2 ^ k + l : Nat) : Int) := by
  rw [i32_or_nat _ _ hb (by omega)]
  have := Nat.two_pow_add_eq_or_of_lt hl h
  rw [Nat.mul_comm h (2 ^ k), this]
set_option linter.unusedVariables false
theorem ret_bool {a b : Bool} (h : a = b) : Ending.returned (.bool a) = .returned (.bool b) := by rw [h]
/-- the tables hold in a world behind -/
theorem tabs_below {w w' : World} (hT : Lib.Utf8Tabs 0 1 w) (hb : Below w.heap.size w w') : Lib.Utf8Tabs 0 1 w' := by
  refine ⟨fun c hc => ?_, fun i hi => ?_⟩
  · have h := hT.1 c hc
    rw [hb.cell (block_lt_of_cell h)]; exact h
  · obtain ⟨h1, h2⟩ := hT.2 i hi
    exact ⟨by rw [hb.cell (block_lt_of_cell h1)]; exact h1, by rw [hb.cell (block_lt_of_cell h2)]; exact h2⟩
theorem tabs_drew {w : World} (hT : Lib.Utf8Tabs 0 1 w) : Lib.Utf8Tabs 0 1 w.drew := ⟨hT.1, hT.2⟩
theorem dec37 (s : ByteArray) (w : World) (hT : Lib.Utf8Tabs 0 1 w) (C K : Nat) (hC : (decodeGo s).1 = C) (hK : (decodeGo s).2 = K) :
    Calls Tryf.prog 21 #[.string s] w fun e w' => e = .returned (.tuple #[.int .i32 C, .int .i64 K]) ∧ Below w.heap.size w w' := by
  subst hC hK
  exact Tryf.utf8_DecodeRuneInString s w hT
/-- a byte of s, or 0 behind its end -/
def byt (s : ByteArray) (i : Nat) : Nat := (s.get! i).toNat
theorem byt_lt (s : ByteArray) (i : Nat) : byt s i < 256 := UInt8.toNat_lt _
theorem byt_at (s : ByteArray) (i : Nat) (h : i < s.size) : (s[i]'h).toNat = byt s i := by
  have e2 : s.get! i = s[i]'h := by
    simp only [ByteArray.get!, ByteArray.getElem_eq_getElem_data]
    exact getElem!_pos s.data i (by simpa using h)
  rw [byt, e2]
theorem ext_byt (s : ByteArray) (i j : Nat) : ((s.extract i s.size).get! j).toNat = byt s (i + j) := by
  by_cases h : i + j < s.size
  · have h1 : j < (s.extract i s.size).size := by simp; omega
    have e1 : (s.extract i s.size).get! j = (s.extract i s.size)[j]'h1 := by
      simp only [ByteArray.get!, ByteArray.getElem_eq_getElem_data]
      exact getElem!_pos (s.extract i s.size).data j (by simpa using h1)
    rw [e1, ByteArray.getElem_extract, byt_at s (i + j) h]
  · have h1 : ¬ j < (s.extract i s.size).data.size := by
      show ¬ j < (s.extract i s.size).size
      simp; omega
    have h2 : ¬ i + j < s.data.size := h
    have e1 : (s.extract i s.size).get! j = default := getElem!_neg (s.extract i s.size).data j h1
    have e2 : s.get! (i + j) = default := getElem!_neg s.data (i + j) h2
    rw [e1, byt, e2]
/-- the rune at place i -/
theorem dec_at (s : ByteArray) (i : Nat) (h : i < s.size) : decodeGo (s.extract i s.size) = decodeN (s.size - i) (byt s i) (byt s (i + 1)) (byt s (i + 2)) (byt s (i + 3)) := by
  unfold decodeGo
  rw [if_neg (by simp; omega), decode_at]
  simp only [Nat.sub_zero, Nat.zero_add, ext_byt, Nat.add_zero]
  have e : (s.extract i s.size).size = s.size - i := by simp
  rw [e]
theorem decN_wid (n b0 b1 b2 b3 : Nat) (h : 1 ≤ n) : 1 ≤ (decodeN n b0 b1 b2 b3).2 ∧ (decodeN n b0 b1 b2 b3).2 ≤ n ∧ (decodeN n b0 b1 b2 b3).2 ≤ 4 := by
  unfold decodeN
  repeat' split
  all_goals (simp; try omega)
theorem dec_wid (s : ByteArray) (i : Nat) (h : i < s.size) : 1 ≤ (decodeGo (s.extract i s.size)).2 ∧ i + (decodeGo (s.extract i s.size)).2 ≤ s.size ∧ (decodeGo (s.extract i s.size)).2 ≤ 4 := by
  rw [dec_at s i h]
  have := decN_wid (s.size - i) (byt s i) (byt s (i + 1)) (byt s (i + 2)) (byt s (i + 3)) (by omega)
  omega
def IsRow (k : IntKind) (w : World) (a : Option Addr) (len cap : Nat) (zs : List Int) : Prop :=
  (a = none ∧ len = 0 ∧ cap = 0 ∧ zs = []) ∨
  ∃ x, a = some x ∧ len ≤ cap ∧ cap ≤ maxLen ∧ zs.length = cap ∧ (∀ i, i < zs.length → w.cell? (x.add i) = some (.int k (zs.getD i 0))) ∧ ∀ n ∈ zs, (Lit.int k n).wf = true
set_option linter.unusedVariables false
theorem infoU : (Tryf.prog.info? 33).map (fun i => (i.zero, i.size, i.bytes)) = some (some (.int .u16 0), 1, 2) := by kernel_rfl
theorem sizeU : (Tryf.prog.info? 33).map (·.size) = some 1 := by kernel_rfl
@[go_sem] theorem eqnilU (w : World) (a : Option Addr) (n c : Nat) : (binOp .eql 22 (.slice a n c) (.slice none 0 0)).run Tryf.prog w = .ok (.bool a.isNone) w := Lib.run_eql_slice_nil w 22 33 a n c 0 0 Tryf.underlying22
/-- the bytes xs, as cells -/
def cellsU (xs : List Int) : List Value := xs.map (Value.int .u16)
theorem cellsU_len (xs : List Int) : (cellsU xs).length = xs.length := by simp [cellsU]
theorem cellsU_app (xs ys : List Int) : cellsU (xs ++ ys) = cellsU xs ++ cellsU ys := by simp [cellsU]
theorem cellsU_one (xs : List Int) : ∀ u ∈ cellsU xs, u.oneCell' = true := ints_oneCell .u16 xs
theorem cellsU_get (xs : List Int) (j : Nat) (u : Value) (h : (cellsU xs)[j]? = some u) : j < xs.length ∧ u = .int .u16 (xs.getD j 0) := by
  have hj : j < xs.length := by have := (List.getElem?_eq_some_iff.1 h).1; simpa [cellsU] using this
  refine ⟨hj, ?_⟩
  rw [cellsU, List.getElem?_map, List.getElem?_eq_getElem hj] at h
  simp at h
  rw [← h]; simp [List.getD, hj]
/-- v is a slice of the code's own (its block is B or later) that holds the bytes xs -/
def OwnU (w : World) (B : Nat) (v : Value) (xs : List Int) : Prop := w.ownsRow B 33 1 v xs.length (cellsU xs)
theorem OwnU.out {w : World} {B : Nat} {v : Value} {xs : List Int} (h : OwnU w B v xs) : w.ownsRow B 33 1 v xs.length (cellsU xs) := h
/-- v is a slice that holds the bytes xs -/
def Units (w : World) (v : Value) (xs : List Int) : Prop := ∃ p c, v = .slice p xs.length c ∧ xs.length ≤ c ∧ ∀ i, i < xs.length → ∃ a, p = some a ∧ w.cell? (a.add i) = some (.int .u16 (xs.getD i 0))
theorem OwnU.units {w : World} {B : Nat} {v : Value} {xs : List Int} (h : OwnU w B v xs) : Units w v xs := by
  rcases h with ⟨hl, ⟨rfl, h0⟩ | ⟨g, cap, cur, rfl, hB, hg, hn, hm, hs, ht⟩⟩
  · refine ⟨none, 0, by rw [h0], by omega, fun i hi => absurd hi (by omega)⟩
  · refine ⟨some ⟨g, 0, none⟩, cap, rfl, hn, fun i hi => ⟨_, rfl, ?_⟩⟩
    have e : (cellsU xs)[i]? = some (.int .u16 (xs.getD i 0)) := by simp [cellsU, List.getD, hi]
    rw [← ht, Nat.mul_one, List.getElem?_take, if_pos hi] at e
    rw [Addr.add_lit]
    simp only [World.cell?, hg, Nat.zero_add]
    simpa using e
theorem OwnU.keep {w w' : World} {B : Nat} {v : Value} {xs : List Int} (h : OwnU w B v xs) (hb : Below w.heap.size w w') : OwnU w' B v xs := by
  rcases h with ⟨hl, h0 | ⟨g, cap, cur, rfl, hB, hg, hr⟩⟩
  · exact ⟨hl, Or.inl h0⟩
  · refine ⟨hl, Or.inr ⟨g, cap, cur, rfl, hB, ?_, hr⟩⟩
    rw [hb.block g (by have := (Array.getElem?_eq_some_iff.1 hg).1; exact this)]
    exact hg
theorem OwnU.mono {w : World} {B B' : Nat} {v : Value} {xs : List Int} (h : OwnU w B v xs) (hb : B' ≤ B) : OwnU w B' v xs := by
  rcases h with ⟨hl, h0 | ⟨g, cap, cur, rfl, hB, hr⟩⟩
  · exact ⟨hl, Or.inl h0⟩
  · exact ⟨hl, Or.inr ⟨g, cap, cur, rfl, by omega, hr⟩⟩
theorem Units.keep {w w' : World} {v : Value} {xs : List Int} (h : Units w v xs) (hb : Below w.heap.size w w') : Units w' v xs := by
  obtain ⟨p, c, e, hc, hi⟩ := h
  refine ⟨p, c, e, hc, fun i h => ?_⟩
  obtain ⟨a, ha, hc⟩ := hi i h
  exact ⟨a, ha, by rw [hb.cell (block_lt_of_cell hc)]; exact hc⟩
theorem below_grown {w w' : World} {row : Option Nat} (h : w.grownBy w' row) (B : Nat) (hB : B ≤ w.heap.size) (hr : ∀ k, row = some k → B ≤ k) : Below B w w' :=
  ⟨h.os, h.tape, h.output, h.size, fun k hk => h.block k (by omega) (fun e => by have := hr k e.symm; omega)⟩
theorem IsRow.units {w : World} {a : Option Addr} {len cap : Nat} {z : List Int} (h : IsRow .u16 w a len cap z) : Units w (.slice a len cap) (z.take len) ∧ (z.take len).length = len := by
  rcases h with ⟨rfl, rfl, rfl, rfl⟩ | ⟨x, rfl, h1, h2, h3, h4, h5⟩
  · exact ⟨⟨none, 0, rfl, by simp, fun i hi => absurd hi (by simp)⟩, rfl⟩
  · have hl : (z.take len).length = len := by simp; omega
    refine ⟨⟨some x, cap, by rw [hl], by omega, fun i hi => ⟨x, rfl, ?_⟩⟩, hl⟩
    rw [h4 i (by omega)]
    simp [List.getD, show i < len by omega]
set_option linter.unusedVariables false
theorem below_alloc1 (w : World) (B : Nat) (hB : B ≤ w.heap.size) (o : Obj) : Below B w (w.alloc o) := ((Below.refl w.heap.size w).alloc (Nat.le_refl _) o).mono hB
theorem cell_one (w : World) (v : Value) (t : TypeId) : ∀ j u, [v][j]? = some u → (w.alloc (.cells #[v] t)).cell? ((⟨w.heap.size, 0, none⟩ : Addr).add j) = some u := by
  intro j u h
  have hj : j = 0 := by have := (List.getElem?_eq_some_iff.1 h).1; simp at this; exact this
  subst hj
  have hv : v = u := by simpa using h
  subst hv
  rw [Addr.add_lit]
  have hb := heap_alloc_new w (.cells #[v] t)
  simp only [World.cell?, Nat.zero_add]
  rw [hb]
  rfl
theorem OwnU.lt {w : World} {B : Nat} {v : Value} {xs : List Int} (h : OwnU w B v xs) : ∀ k, v.ownBlock = some k → B ≤ k := fun k hk => (World.ownsRow.lt h k hk).1
theorem own_app {w : World} {B : Nat} {v : Value} {xs : List Int} {b : Int} (h : w.ownsRow B 33 1 v (xs.length + 1) (cellsU xs ++ [.int .u16 b])) : OwnU w B v (xs ++ [b]) := by
  unfold OwnU
  have e1 : (xs ++ [b]).length = xs.length + 1 := by simp
  have e2 : cellsU (xs ++ [b]) = cellsU xs ++ [.int .u16 b] := by simp [cellsU]
  rw [e1, e2]; exact h
theorem decN_low (n b0 b1 b2 b3 : Nat) (h : b0 < 128) : decodeN n b0 b1 b2 b3 = (b0, 1) := by unfold decodeN; rw [if_pos h]
theorem decN_big (n b0 b1 b2 b3 : Nat) (h : 128 ≤ b0) : 128 ≤ (decodeN n b0 b1 b2 b3).1 ∧ (decodeN n b0 b1 b2 b3).1 ≤ 1114111 := by
  unfold decodeN
  rw [if_neg (by omega)]
  repeat' split
  all_goals (simp; try omega)
theorem dec_low (s : ByteArray) (i : Nat) (h : i < s.size) (hb : byt s i < 128) : decodeGo (s.extract i s.size) = (byt s i, 1) := by
  rw [dec_at s i h, decN_low _ _ _ _ _ hb]
theorem dec_big (s : ByteArray) (i : Nat) (h : i < s.size) (hb : 128 ≤ byt s i) : 128 ≤ (decodeGo (s.extract i s.size)).1 ∧ (decodeGo (s.extract i s.size)).1 ≤ 1114111 := by
  rw [dec_at s i h]; exact decN_big _ _ _ _ _ hb
theorem dec_max (s : ByteArray) (i : Nat) (h : i < s.size) : (decodeGo (s.extract i s.size)).1 ≤ 1114111 := by
  by_cases hb : byt s i < 128
  · rw [dec_low s i h hb]; simp; omega
  · exact (dec_big s i h (by omega)).2
/-- the rune at i is c, a byte under 128, just where the byte is -/
theorem dec_is (s : ByteArray) (i c : Nat) (h : i < s.size) (hc : c < 128) : (decodeGo (s.extract i s.size)).1 = c ↔ byt s i = c := by
  by_cases hb : byt s i < 128
  · rw [dec_low s i h hb]
  · have := dec_big s i h (by omega)
    constructor
    · intro h; omega
    · intro h; omega
theorem cell_two (w : World) (v0 v1 : Value) (t : TypeId) : ∀ j u, [v0, v1][j]? = some u → (w.alloc (.cells #[v0, v1] t)).cell? ((⟨w.heap.size, 0, none⟩ : Addr).add j) = some u := by
  intro j u h
  have hj : j = 0 ∨ j = 1 := by have := (List.getElem?_eq_some_iff.1 h).1; simp at this; omega
  have hb := heap_alloc_new w (.cells #[v0, v1] t)
  rw [Addr.add_lit]
  rcases hj with rfl | rfl
  · have hv : v0 = u := by simpa using h
    subst hv
    simp only [World.cell?, Nat.zero_add]
    rw [hb]; rfl
  · have hv : v1 = u := by simpa using h
    subst hv
    simp only [World.cell?, Nat.zero_add]
    rw [hb]; rfl
/-- the rune at a place whose byte is under 128 -/
theorem dec_b (s : ByteArray) (i b : Nat) (h : i < s.size) (hb : byt s i = b) (hl : b < 128) : (decodeGo (s.extract i s.size)).1 = b ∧ (decodeGo (s.extract i s.size)).2 = 1 := by
  have := dec_low s i h (by omega)
  rw [this, hb]; exact ⟨rfl, rfl⟩
set_option linter.unusedVariables false
/-- the value of a hexadecimal digit -/
def hx (c : Nat) : Nat := if c < 58 then c - 48 else if c < 97 then c - 55 else c - 87
def isHx (c : Nat) : Bool := (48 ≤ c && c ≤ 57) || (65 ≤ c && c ≤ 70) || (97 ≤ c && c ≤ 102)
theorem isHx_lt (D : Nat) (h : isHx D = true) : D < 103 := by
  simp only [isHx, Bool.or_eq_true, Bool.and_eq_true, decide_eq_true_eq] at h; omega
theorem hx_lt (D : Nat) (h : isHx D = true) : hx D < 16 := by
  simp only [isHx, Bool.or_eq_true, Bool.and_eq_true, decide_eq_true_eq] at h
  unfold hx; split
  · omega
  · split <;> omega
theorem hx_class (D : Nat) (h : isHx D = true) : (48 ≤ D ∧ D ≤ 57 ∧ (hx D : Int) = (D : Int) - 48) ∨ (97 ≤ D ∧ D ≤ 102 ∧ (hx D : Int) = (D : Int) - 87) ∨ (65 ≤ D ∧ D ≤ 70 ∧ (hx D : Int) = (D : Int) - 55) := by
  simp only [isHx, Bool.or_eq_true, Bool.and_eq_true, decide_eq_true_eq] at h
  unfold hx
  rcases h with (h | h) | h
  · left; rw [if_pos (by omega)]; omega
  · right; right; rw [if_neg (by omega), if_pos (by omega)]; omega
  · right; left; rw [if_neg (by omega), if_neg (by omega)]; omega
theorem ne_b (D : Nat) (k : Int) (h : (D : Int) ≠ k) : ((D : Int) == k) = false := by rw [beq_eq_false_iff_ne]; exact h
/-- the value of the first j digits from place i on -/
def vj (s : ByteArray) (i : Nat) : Nat → Nat
  | 0 => 0
  | j + 1 => vj s i j * 16 + hx (byt s (i + j))
theorem or_hex (V n : Nat) (hV : V < 65536) (hn : n < 16) : bits .or .i32 ((V : Int) * 16) (n : Int) = ((V * 16 + n : Nat) : Int) := by
  have := i32_join V n 4 (by omega) (by omega) (by omega)
  simpa using this
set_option linter.unusedVariables false
theorem ret_int {k : IntKind} {a b : Int} (h : a = b) : Ending.returned (.int k a) = .returned (.int k b) := by rw [h]
set_option maxRecDepth 10000
theorem infoB : (Tryf.prog.info? 5).map (fun i => (i.zero, i.size, i.bytes)) = some (some (.int .u8 0), 1, 1) := by kernel_rfl
theorem sizeB : (Tryf.prog.info? 5).map (·.size) = some 1 := by kernel_rfl
@[go_sem] theorem eqnilB (w : World) (a : Option Addr) (n c : Nat) : (binOp .eql 23 (.slice a n c) (.slice none 0 0)).run Tryf.prog w = .ok (.bool a.isNone) w := Lib.run_eql_slice_nil w 23 5 a n c 0 0 Tryf.underlying23
/-- the bytes xs, as cells -/
def cellsB (xs : List Int) : List Value := xs.map (Value.int .u8)
theorem cellsB_len (xs : List Int) : (cellsB xs).length = xs.length := by simp [cellsB]
theorem cellsB_app (xs ys : List Int) : cellsB (xs ++ ys) = cellsB xs ++ cellsB ys := by simp [cellsB]
theorem cellsB_one (xs : List Int) : ∀ u ∈ cellsB xs, u.oneCell' = true := ints_oneCell .u8 xs
theorem cellsB_get (xs : List Int) (j : Nat) (u : Value) (h : (cellsB xs)[j]? = some u) : j < xs.length ∧ u = .int .u8 (xs.getD j 0) := by
  have hj : j < xs.length := by have := (List.getElem?_eq_some_iff.1 h).1; simpa [cellsB] using this
  refine ⟨hj, ?_⟩
  rw [cellsB, List.getElem?_map, List.getElem?_eq_getElem hj] at h
  simp at h
  rw [← h]; simp [List.getD, hj]
/-- v is a slice of the code's own (its block is B or later) that holds the bytes xs -/
def OwnB (w : World) (B : Nat) (v : Value) (xs : List Int) : Prop := w.ownsRow B 5 1 v xs.length (cellsB xs)
theorem OwnB.out {w : World} {B : Nat} {v : Value} {xs : List Int} (h : OwnB w B v xs) : w.ownsRow B 5 1 v xs.length (cellsB xs) := h
/-- v is a slice that holds the bytes xs -/
def Bytes (w : World) (v : Value) (xs : List Int) : Prop := ∃ p c, v = .slice p xs.length c ∧ xs.length ≤ c ∧ ∀ i, i < xs.length → ∃ a, p = some a ∧ w.cell? (a.add i) = some (.int .u8 (xs.getD i 0))
theorem OwnB.bytes {w : World} {B : Nat} {v : Value} {xs : List Int} (h : OwnB w B v xs) : Bytes w v xs := by
  rcases h with ⟨hl, ⟨rfl, h0⟩ | ⟨g, cap, cur, rfl, hB, hg, hn, hm, hs, ht⟩⟩
  · refine ⟨none, 0, by rw [h0], by omega, fun i hi => absurd hi (by omega)⟩
  · refine ⟨some ⟨g, 0, none⟩, cap, rfl, hn, fun i hi => ⟨_, rfl, ?_⟩⟩
    have e : (cellsB xs)[i]? = some (.int .u8 (xs.getD i 0)) := by simp [cellsB, List.getD, hi]
    rw [← ht, Nat.mul_one, List.getElem?_take, if_pos hi] at e
    rw [Addr.add_lit]
    simp only [World.cell?, hg, Nat.zero_add]
    simpa using e
theorem OwnB.keep {w w' : World} {B : Nat} {v : Value} {xs : List Int} (h : OwnB w B v xs) (hb : Below w.heap.size w w') : OwnB w' B v xs := by
  rcases h with ⟨hl, h0 | ⟨g, cap, cur, rfl, hB, hg, hr⟩⟩
  · exact ⟨hl, Or.inl h0⟩
  · refine ⟨hl, Or.inr ⟨g, cap, cur, rfl, hB, ?_, hr⟩⟩
    rw [hb.block g (by have := (Array.getElem?_eq_some_iff.1 hg).1; exact this)]
    exact hg
theorem OwnB.mono {w : World} {B B' : Nat} {v : Value} {xs : List Int} (h : OwnB w B v xs) (hb : B' ≤ B) : OwnB w B' v xs := by
  rcases h with ⟨hl, h0 | ⟨g, cap, cur, rfl, hB, hr⟩⟩
  · exact ⟨hl, Or.inl h0⟩
  · exact ⟨hl, Or.inr ⟨g, cap, cur, rfl, by omega, hr⟩⟩
theorem Bytes.keep {w w' : World} {v : Value} {xs : List Int} (h : Bytes w v xs) (hb : Below w.heap.size w w') : Bytes w' v xs := by
  obtain ⟨p, c, e, hc, hi⟩ := h
  refine ⟨p, c, e, hc, fun i h => ?_⟩
  obtain ⟨a, ha, hc⟩ := hi i h
  exact ⟨a, ha, by rw [hb.cell (block_lt_of_cell hc)]; exact hc⟩
theorem own_appB {w : World} {B : Nat} {v : Value} {xs : List Int} {b : Int} (h : w.ownsRow B 5 1 v (xs.length + 1) (cellsB xs ++ [.int .u8 b])) : OwnB w B v (xs ++ [b]) := by
  unfold OwnB
  have e1 : (xs ++ [b]).length = xs.length + 1 := by simp
  have e2 : cellsB (xs ++ [b]) = cellsB xs ++ [.int .u8 b] := by simp [cellsB]
  rw [e1, e2]; exact h
theorem own_appB2 {w : World} {B : Nat} {v : Value} {xs : List Int} {b c : Int} (h : w.ownsRow B 5 1 v (xs.length + 2) (cellsB xs ++ [.int .u8 b, .int .u8 c])) : OwnB w B v (xs ++ [b, c]) := by
  unfold OwnB
  have e1 : (xs ++ [b, c]).length = xs.length + 2 := by simp
  have e2 : cellsB (xs ++ [b, c]) = cellsB xs ++ [.int .u8 b, .int .u8 c] := by simp [cellsB]
  rw [e1, e2]; exact h
theorem OwnB.lt {w : World} {B : Nat} {v : Value} {xs : List Int} (h : OwnB w B v xs) : ∀ k, v.ownBlock = some k → B ≤ k := fun k hk => (World.ownsRow.lt h k hk).1
/-- a row of bytes made a string -/
theorem conv_bytes {w : World} {v : Value} {xs : List Int} (h : Bytes w v xs) : (convert 23 9 v).run Tryf.prog w = .ok (.string (strOfNums xs)) w := by
  obtain ⟨p, c, rfl, hc, hi⟩ := h
  cases p with
  | none =>
    obtain rfl : xs = [] := by
      cases xs with
      | nil => rfl
      | cons x r => obtain ⟨a, ha, _⟩ := hi 0 (by simp); cases ha
    exact run_convert_bytes_nil w 23 5 Tryf.underlying23 Tryf.underlying5 _ _ 9 Tryf.underlying9
  | some a =>
    have hf : (convert 23 9 (.slice (some a) xs.length c)).run Tryf.prog w = (Conv.bytesToString (.slice (some a) xs.length c)).run Tryf.prog w := run_convert_bytes_string w 23 9 5 _ _ _ Tryf.underlying23 Tryf.underlying5 Tryf.underlying9
    have hlc : (loadCells a xs.length).run Tryf.prog w = .ok (xs.map (Value.int .u8)).toArray w := by
      have := run_loadCells_list (P := Tryf.prog) w a (xs.map (Value.int .u8)) (fun j v hj => by
        obtain ⟨hjl, rfl⟩ := cellsB_get xs j v (show (cellsB xs)[j]? = some v from hj)
        obtain ⟨a', ha, hcj⟩ := hi j hjl
        obtain rfl : a' = a := by injection ha with ha; exact ha.symm
        exact hcj)
      simpa using this
    rw [hf, run_bytesToString w a xs.length c xs hlc, foldl_push_bytes]
    simp [strOfNums, ByteArray.empty, ByteArray.emptyWithCapacity]
    rfl
/-- a hexadecimal digit -/
def hdig (up : Bool) (d : Int) : Int := if d < 10 then 48 + d else if up then 55 + d else 87 + d
theorem IsRow.bytes {w : World} {a : Option Addr} {len cap : Nat} {z : List Int} (h : IsRow .u8 w a len cap z) : Bytes w (.slice a len cap) (z.take len) ∧ (z.take len).length = len := by
  rcases h with ⟨rfl, rfl, rfl, rfl⟩ | ⟨x, rfl, h1, h2, h3, h4, h5⟩
  · exact ⟨⟨none, 0, rfl, by simp, fun i hi => absurd hi (by simp)⟩, rfl⟩
  · have hl : (z.take len).length = len := by simp; omega
    refine ⟨⟨some x, cap, by rw [hl], by omega, fun i hi => ⟨x, rfl, ?_⟩⟩, hl⟩
    rw [h4 i (by omega)]
    simp [List.getD, show i < len by omega]
/-- of what was there nothing but the row of v has turned; the row of v' is that row or a new one -/
structure Mv (w w' : World) (v v' : Value) : Prop where
  g : w.grownBy w' v.ownBlock
  at_ : v'.ownBlock = v.ownBlock ∨ ∃ k, v'.ownBlock = some k ∧ w.heap.size ≤ k
theorem Mv.refl (w : World) (v : Value) : Mv w w v v := ⟨⟨rfl, rfl, rfl, Nat.le_refl _, fun _ _ _ => rfl⟩, Or.inl rfl⟩
theorem Mv.trans {w w1 w2 : World} {v v1 v2 : Value} (h : Mv w w1 v v1) (h' : Mv w1 w2 v1 v2) : Mv w w2 v v2 := by
  have hs := h.g.size
  refine ⟨⟨h'.g.os.trans h.g.os, h'.g.tape.trans h.g.tape, h'.g.output.trans h.g.output, Nat.le_trans hs h'.g.size, fun k hk hn => ?_⟩, ?_⟩
  · rw [h'.g.block k (by omega) ?_]
    · exact h.g.block k hk hn
    · rcases h.at_ with e | ⟨j, e, hj⟩
      · rw [e]; exact hn
      · rw [e]; intro e'; injection e' with e'; omega
  · rcases h'.at_ with e | ⟨j, e, hj⟩
    · rcases h.at_ with e1 | ⟨j, e1, hj⟩
      · exact Or.inl (e.trans e1)
      · exact Or.inr ⟨j, e.trans e1, hj⟩
    · exact Or.inr ⟨j, e, by omega⟩
theorem Mv.alloc (w : World) (v : Value) (o : Obj) : Mv w (w.alloc o) v v :=
  ⟨⟨rfl, rfl, rfl, by simp, fun k hk _ => heap_alloc_old w o hk⟩, Or.inl rfl⟩
theorem Mv.drew {w w' : World} {v v' : Value} (h : Mv w w' v v') : Mv w w'.drew v v' := ⟨⟨h.g.os, h.g.tape, h.g.output, h.g.size, h.g.block⟩, h.at_⟩
theorem Mv.app {w w1 : World} {v v1 : Value} {o : Obj} (hg : (w.alloc o).grownBy w1 v.ownBlock) (hat : v1.ownBlock = v.ownBlock ∨ v1.ownBlock = some (w.alloc o).heap.size) : Mv w w1 v v1 := by
  refine (Mv.alloc w v o).trans ⟨hg, ?_⟩
  rcases hat with e | e
  · exact Or.inl e
  · exact Or.inr ⟨_, e, Nat.le_refl _⟩
/-- a call that only makes new blocks -/
theorem Mv.of_below {w w' : World} (v : Value) (h : Below w.heap.size w w') : Mv w w' v v := ⟨⟨h.os, h.tape, h.output, h.size, fun k hk _ => h.block k hk⟩, Or.inl rfl⟩
theorem Mv.below {w w' : World} {v v' : Value} (h : Mv w w' v v') (B : Nat) (hB : B ≤ w.heap.size) (hr : ∀ k, v.ownBlock = some k → B ≤ k) : Below B w w' := below_grown h.g B hB hr
theorem OwnB.ne {w : World} {B : Nat} {v : Value} {xs : List Int} (hO : OwnB w B v xs) {b : Nat} {c : Array Value} {t : TypeId} {fr : Nat × Nat} (hb : w.heap[b]? = some (Obj.cells c t fr)) (ht : t ≠ 5) : some b ≠ v.ownBlock := by
  rcases hO with ⟨_, ⟨rfl, _⟩ | ⟨g, cap, cur, rfl, _, hgc, _⟩⟩
  · intro e; cases e
  · intro e
    have : b = g := by simpa [Value.ownBlock] using e
    subst this
    rw [hb] at hgc
    injection hgc with hgc
    injection hgc with _ h2
    exact ht h2
theorem OwnB.old {w : World} {B : Nat} {v : Value} {xs : List Int} (h : OwnB w B v xs) : ∀ k, v.ownBlock = some k → k < w.heap.size := fun k hk => (World.ownsRow.lt h k hk).2
set_option maxRecDepth 100000 in
set_option maxHeartbeats 1000000 in
/-- zzEqualUnits: the same units? -/
theorem eq17 (w : World) (v1 v2 : Value) (xs ys : List Int) (h1 : Units w v1 xs) (h2 : Units w v2 ys) (l1 : xs.length ≤ 4194304) (l2 : ys.length ≤ 4194304) :
    Calls Tryf.prog 10 #[v1, v2] w fun e w' => (∃ b, e = .returned (.bool b) ∧ (b = true ↔ xs = ys)) ∧ ∃ n, w' = w.drewN n := by
  obtain ⟨p1, c1, rfl, hc1, hi1⟩ := h1
  obtain ⟨p2, c2, rfl, hc2, hi2⟩ := h2
  have H1 := Lib.hid hi1; have H2 := Lib.hid hi2
  clear hi1 hi2
  by_cases hl : xs.length = ys.length
  · obtain ⟨n, hn⟩ : ∃ n, xs.length = n := ⟨_, rfl⟩
    have HN := Lib.hid hn; have HM := Lib.hid (hl.symm.trans hn)
    rw [HN.out, HM.out]
    rw [HN.out] at l1 hc1
    rw [HM.out] at hc2
    clear hl hn l2
    go_enter Tryf.func10, Tryf.ntmps10
    go_wp2_with fail
    go_loopw [5] (fun a w' => ∃ i m : Nat, a = .int .i64 i ∧ w' = w.drewN m ∧ i ≤ n ∧ ∀ k, k < i → xs.getD k 0 = ys.getD k 0) (fun a w' => n - (intOf a).toNat)
    case atStart => exact ⟨0, 0, rfl, rfl, by omega, fun k hk => absurd hk (by omega)⟩
    case round =>
      obtain ⟨i, m, rfl, rfl, hi, hall⟩ := hrel
      have HA := Lib.hid hall; clear hall
      by_cases hlt : i < n
      · obtain ⟨x1, rfl, e1⟩ := H1.out i (by have := HN.out; omega)
        obtain ⟨x2, rfl, e2⟩ := H2.out i (by have := HM.out; omega)
        obtain ⟨A, hA⟩ : ∃ A, xs.getD i 0 = A := ⟨_, rfl⟩
        obtain ⟨B, hB⟩ : ∃ B, ys.getD i 0 = B := ⟨_, rfl⟩
        rw [hA] at e1
        rw [hB] at e2
        have HAi := Lib.hid hA; have HBi := Lib.hid hB
        clear hA hB
        by_cases he : A = B
        · subst he
          go_wp2_with fail
          go_quiet (fail)
          go_wp2_with fail
          go_roundw
          case rel =>
            refine ⟨i + 1, _, by simp, rfl, by omega, fun k hk => ?_⟩
            by_cases hki : k < i
            · exact HA.out k hki
            · obtain rfl : k = i := by omega
              rw [HAi.out, HBi.out]
          case measure => simp only [intOf]; omega
        · have d : (A != B) = true := by simp [he]
          have HE := Lib.hid he; clear he
          go_wp2_with fail
          go_quiet (fail)
          go_wp2_with fail
          go_ret
          refine ⟨⟨false, rfl, fun h => (by cases h), fun h => ?_⟩, _, World.drewN_drewN _ _ _⟩
          exact absurd (by rw [← HAi.out, ← HBi.out, h]) HE.out
      · obtain rfl : i = n := by omega
        go_wp2_with fail
        go_ret
        refine ⟨⟨true, rfl, fun _ => ?_, fun _ => rfl⟩, _, rfl⟩
        apply List.ext_getElem (HN.out.trans HM.out.symm)
        intro k hk1 hk2
        have := HA.out k (by have := HN.out; omega)
        simpa [List.getD, hk1, hk2] using this
  · have d : ((xs.length : Int) != (ys.length : Int)) = true := by simp; omega
    have HE := Lib.hid hl; clear hl
    go_enter Tryf.func10, Tryf.ntmps10
    go_wp2_with fail
    go_ret
    exact ⟨⟨false, rfl, fun h => (by cases h), fun h => absurd (by rw [h]) HE.out⟩, 0, rfl⟩
end Go.Proofs.YtemneajjdbbgoaaFmt
