/-
  Sixteen-bit flags, plainly: what MergeContentsWith makes of them. No Go in sight.
-/
import Derived.Test.YtnhefnccjlbeiaaB1
import Derived.Laws.BitsAllLaws
namespace Go.Proofs.Ytnhefnccjlbeiaa
open Go.ChangeShapes Go.WideShapes Go.ChangeAt Go.RowKit
abbrev band (a b : Int) : Int := bits BinOp.and .u16 a b
abbrev bor (a b : Int) : Int := bits BinOp.or .u16 a b
abbrev bandn (a b : Int) : Int := bits BinOp.andNot .u16 a b
theorem band_nat (a b : Nat) (ha : a < 65536) (hb : b < 65536) : band a b = ((a &&& b : Nat) : Int) := u16_and_nat a b ha hb
theorem bor_nat (a b : Nat) (ha : a < 65536) (hb : b < 65536) : bor a b = ((a ||| b : Nat) : Int) := u16_or_nat a b ha hb
theorem bandn_nat (a b : Nat) (ha : a < 65536) (hb : b < 65536) : bandn a b = ((a &&& (65535 - b) : Nat) : Int) := u16_andNot_nat a b ha hb
theorem or_lt (a b : Nat) (ha : a < 65536) (hb : b < 65536) : a ||| b < 65536 := Nat.or_lt_two_pow (n := 16) ha hb
theorem not_bit (b i : Nat) (hb : b < 65536) (hi : i < 16) : (65535 - b).testBit i = !b.testBit i := by
  have := Nat.testBit_two_pow_sub_succ (x := b) (n := 16) (by omega) i
  rw [show 2 ^ 16 - (b + 1) = 65535 - b by omega] at this
  rw [this]; simp [hi]
theorem lt_bit (a i : Nat) (ha : a < 65536) (hi : 16 ≤ i) : a.testBit i = false :=
  Nat.testBit_lt_two_pow (Nat.lt_of_lt_of_le (show a < 2 ^ 16 from ha) (Nat.pow_le_pow_right (by omega) hi))
/-- the flags that a merge adds: a subset x of the old ones, and of 3 -/
theorem keep_bits (f x : Nat) : (f ||| x) &&& f = f := by
  apply Nat.eq_of_testBit_eq; intro i; simp [Nat.testBit_or, Nat.testBit_and]
  cases f.testBit i <;> simp
theorem none_new (f g x : Nat) (hf : f < 65536) (hg : g < 65536) (hx : x &&& g = x) : (f ||| x) &&& (65535 - (f ||| g)) = 0 := by
  apply Nat.eq_of_testBit_eq; intro i
  have h1 : (x &&& g).testBit i = x.testBit i := by rw [hx]
  rw [Nat.testBit_and] at h1
  by_cases hi : i < 16
  · rw [Nat.testBit_and, not_bit _ _ (or_lt _ _ hf hg) hi, Nat.testBit_or, Nat.testBit_or]
    revert h1
    cases f.testBit i <;> cases x.testBit i <;> cases g.testBit i <;> simp
  · have h2 : (65535 - (f ||| g)).testBit i = false := lt_bit _ _ (by omega) (by omega)
    rw [Nat.testBit_and, h2]; simp
theorem and_pow (f k : Nat) : f &&& 2 ^ k = if f.testBit k then 2 ^ k else 0 := by
  apply Nat.eq_of_testBit_eq; intro i
  rw [Nat.testBit_and, Nat.testBit_two_pow]
  by_cases h : k = i
  · subst h
    cases hb : f.testBit k <;> simp
  · cases hb : f.testBit k <;> simp [h]
theorem has_pow (f k : Nat) : (f &&& 2 ^ k != 0) = f.testBit k := by
  rw [and_pow]
  cases f.testBit k <;> simp
theorem has1 (f : Nat) : (f &&& 1 != 0) = f.testBit 0 := has_pow f 0
theorem has2 (f : Nat) : (f &&& 2 != 0) = f.testBit 1 := has_pow f 1
theorem band_has (f k : Nat) (hf : f < 65536) (hk : k < 16) : (band f ((2 ^ k : Nat) : Int) != 0) = f.testBit k := by
  have h2 : 2 ^ k < 65536 := Nat.lt_of_lt_of_le (Nat.pow_lt_pow_right (by omega) hk) (by decide)
  rw [band_nat f _ hf h2, ← has_pow]
  rw [Bool.eq_iff_iff]
  simp
def addF (b1 b2 b3 : Bool) (f : Int) : Int :=
  match b1, b2, b3 with
  | true, false, true => bor (bor f 1) 2
  | true, false, false => bor f 1
  | _, _, true => bor f 2
  | _, _, false => f
/-- what is added -/
def addX (b1 b2 b3 : Bool) : Nat :=
  match b1, b2, b3 with
  | true, false, true => 3
  | true, false, false => 1
  | _, _, true => 2
  | _, _, false => 0
theorem or_12 (f : Nat) : (f ||| 1) ||| 2 = f ||| 3 := by rw [Nat.or_assoc]; rfl
theorem addF_nat (b1 b2 b3 : Bool) (f : Nat) (hf : f < 65536) : addF b1 b2 b3 f = ((f ||| addX b1 b2 b3 : Nat) : Int) := by
  have h1 : bor f 1 = ((f ||| 1 : Nat) : Int) := bor_nat f 1 hf (by omega)
  have h2 : bor f 2 = ((f ||| 2 : Nat) : Int) := bor_nat f 2 hf (by omega)
  have h3 : bor ((f ||| 1 : Nat) : Int) 2 = ((f ||| 3 : Nat) : Int) := by
    rw [← or_12]
    exact bor_nat _ 2 (or_lt _ _ hf (by omega)) (by omega)
  cases b1 <;> cases b2 <;> cases b3 <;> simp [addF, addX, h1, h2, h3]
theorem addX_lt (b1 b2 b3 : Bool) : addX b1 b2 b3 < 65536 := by cases b1 <;> cases b2 <;> cases b3 <;> decide
/-- what is added is among the old symbol's flags -/
theorem addX_sub (f' : Nat) (b2 : Bool) : addX (f'.testBit 0) b2 (f'.testBit 1) &&& f' = addX (f'.testBit 0) b2 (f'.testBit 1) := by
  apply Nat.eq_of_testBit_eq; intro i
  rw [Nat.testBit_and]
  have h3 : (3 : Nat).testBit i = (decide (i = 0) || decide (i = 1)) := by
    match i with
    | 0 => rfl
    | 1 => rfl
    | i + 2 => simp [Nat.testBit_succ]
  have h1 : (1 : Nat).testBit i = decide (i = 0) := by
    match i with
    | 0 => rfl
    | i + 1 => simp [Nat.testBit_succ]
  have h2 : (2 : Nat).testBit i = decide (i = 1) := by
    match i with
    | 0 => rfl
    | 1 => rfl
    | i + 2 => simp [Nat.testBit_succ]
  by_cases e0 : i = 0
  · subst e0
    cases hb : f'.testBit 0 <;> cases b2 <;> cases f'.testBit 1 <;> simp [addX]
  by_cases e1 : i = 1
  · subst e1
    cases f'.testBit 0 <;> cases b2 <;> cases hb : f'.testBit 1 <;> simp [addX, h1, h2, h3]
  · cases f'.testBit 0 <;> cases b2 <;> cases f'.testBit 1 <;> simp [addX, h1, h2, h3, e0, e1]
theorem addX_0 (b1 b2 b3 : Bool) : (addX b1 b2 b3).testBit 0 = (b1 && !b2) := by cases b1 <;> cases b2 <;> cases b3 <;> decide
theorem addX_1 (b1 b2 b3 : Bool) : (addX b1 b2 b3).testBit 1 = b3 := by cases b1 <;> cases b2 <;> cases b3 <;> decide
/-- THE FOUR FACTS of the first law. -/
theorem fourFacts (f f' : Nat) (hf : f < 65536) (hf' : f' < 65536) (F : Int) (hF : F = addF (band f' 1 != 0) (band f 1 != 0) (band f' 2 != 0) f) :
    (band F f != (f : Int)) = false ∧ (bandn F (bor f f') != 0) = false ∧ (band F 1 != 0) = ((band f 1 != 0) || (band f' 1 != 0)) ∧ (band F 2 != 0) = ((band f 2 != 0) || (band f' 2 != 0)) := by
  have a1 : (band f 1 != 0) = f.testBit 0 := band_has f 0 hf (by omega)
  have a1' : (band f' 1 != 0) = f'.testBit 0 := band_has f' 0 hf' (by omega)
  have a2 : (band f 2 != 0) = f.testBit 1 := band_has f 1 hf (by omega)
  have a2' : (band f' 2 != 0) = f'.testBit 1 := band_has f' 1 hf' (by omega)
  rw [a1', a1, a2'] at hF
  rw [addF_nat _ _ _ f hf] at hF
  generalize hx : addX (f'.testBit 0) (f.testBit 0) (f'.testBit 1) = x at hF
  have hxl : x < 65536 := by rw [← hx]; exact addX_lt _ _ _
  have hl : f ||| x < 65536 := or_lt _ _ hf hxl
  have hsub : x &&& f' = x := by rw [← hx]; exact addX_sub f' _
  rw [hF, a1, a1', a2, a2']
  refine ⟨?_, ?_, ?_, ?_⟩
  · rw [band_nat _ _ hl hf, keep_bits]; simp
  · rw [bor_nat f f' hf hf', bandn_nat _ _ hl (or_lt _ _ hf hf'), none_new f f' x hf hf' hsub]; simp
  · have := band_has (f ||| x) 0 hl (by omega)
    rw [show (band ((f ||| x : Nat) : Int) 1 != 0) = (f ||| x).testBit 0 from this, Nat.testBit_or, ← hx, addX_0]
    cases f.testBit 0 <;> cases f'.testBit 0 <;> rfl
  · have := band_has (f ||| x) 1 hl (by omega)
    rw [show (band ((f ||| x : Nat) : Int) 2 != 0) = (f ||| x).testBit 1 from this, Nat.testBit_or, ← hx, addX_1]
/-- A SECOND MERGE of the same old symbol: nothing more is added. -/
theorem addF_twice (f f' : Nat) (hf : f < 65536) (hf' : f' < 65536) :
    addF (band f' 1 != 0) (band (addF (band f' 1 != 0) (band f 1 != 0) (band f' 2 != 0) f) 1 != 0) (band f' 2 != 0) (addF (band f' 1 != 0) (band f 1 != 0) (band f' 2 != 0) f) = addF (band f' 1 != 0) (band f 1 != 0) (band f' 2 != 0) f := by
  obtain ⟨_, _, h3, _⟩ := fourFacts f f' hf hf' _ rfl
  rw [h3]
  have a1 : (band f 1 != 0) = f.testBit 0 := band_has f 0 hf (by omega)
  have a1' : (band f' 1 != 0) = f'.testBit 0 := band_has f' 0 hf' (by omega)
  have a2' : (band f' 2 != 0) = f'.testBit 1 := band_has f' 1 hf' (by omega)
  rw [a1, a1', a2', addF_nat _ _ _ f hf]
  rw [addF_nat _ _ _ _ (or_lt _ _ hf (addX_lt _ _ _))]
  congr 1
  rw [Nat.or_assoc]
  congr 1
  cases f'.testBit 0 <;> cases f.testBit 0 <;> cases f'.testBit 1 <;> decide
end Go.Proofs.Ytnhefnccjlbeiaa
