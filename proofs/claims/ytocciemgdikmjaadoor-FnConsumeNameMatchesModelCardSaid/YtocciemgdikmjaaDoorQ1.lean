/-
  An escape, plainly; isHex; consumeEscape.
-/
import Derived.Test.YtocciemgdikmjaaDoorD2
namespace Go.Proofs.YtocciemgdikmjaaDoor
open Go.ChangeShapes Go.WideShapes Go.ChangeAt Go.RowKit
open Go.Lib (decodeN decode_at decodeGo)
set_option linter.unusedVariables false
def hexI (c : Int) : Bool := decide ((48 ≤ c ∧ c ≤ 57) ∨ (97 ≤ c ∧ c ≤ 102) ∨ (65 ≤ c ∧ c ≤ 70))
def hxI (c : Int) : Int := if 48 ≤ c ∧ c ≤ 57 then c - 48 else if 97 ≤ c ∧ c ≤ 102 then c - 87 else if 65 ≤ c ∧ c ≤ 70 then c - 55 else 0
/-- up to k hex digits from place i on, onto the value v: the value, the place behind -/
def hexR (s : ByteArray) : Nat → Nat → Nat → Nat × Nat
  | 0, i, v => (v, i)
  | k + 1, i, v => if i < s.size ∧ hexI (byt s i) = true then hexR s k (i + 1) (v * 16 + (hxI (byt s i)).toNat) else (v, i)
def fixV (v : Nat) : Nat := if v = 0 ∨ (55296 ≤ v ∧ v ≤ 57343) ∨ 1114111 < v then 65533 else v
/-- an escape whose backslash stands ahead of place i: the rune, the place behind -/
def esc (s : ByteArray) (i : Nat) : Nat × Nat :=
  if s.size ≤ i then (65533, i)
  else if hexI (byt s i) = true then
    (fixV (hexR s 5 (i + 1) (hxI (byt s i)).toNat).1, if wsC (byt s (hexR s 5 (i + 1) (hxI (byt s i)).toNat).2) = true then (hexR s 5 (i + 1) (hxI (byt s i)).toNat).2 + 1 else (hexR s 5 (i + 1) (hxI (byt s i)).toNat).2)
  else ((decodeGo (s.extract i s.size)).1, i + wid s i)
theorem hx_le (c : Int) : 0 ≤ hxI c ∧ hxI c ≤ 15 := by
  unfold hxI
  repeat' split
  all_goals omega
theorem hexR_le (s : ByteArray) : ∀ k i v, i ≤ s.size → i ≤ (hexR s k i v).2 ∧ (hexR s k i v).2 ≤ s.size ∧ (hexR s k i v).1 ≤ (v + 1) * 16 ^ k
  | 0, i, v, h => ⟨Nat.le_refl _, h, by show v ≤ _; simp⟩
  | k + 1, i, v, h => by
    unfold hexR
    by_cases hc : i < s.size ∧ hexI (byt s i) = true
    · rw [if_pos hc]
      obtain ⟨a, b, c⟩ := hexR_le s k (i + 1) (v * 16 + (hxI (byt s i)).toNat) (by omega)
      have hx := hx_le (byt s i : Nat)
      refine ⟨by omega, b, Nat.le_trans c ?_⟩
      have e : (v + 1) * 16 ^ (k + 1) = ((v + 1) * 16) * 16 ^ k := by rw [Nat.pow_succ, Nat.mul_comm (16 ^ k) 16, Nat.mul_assoc]
      rw [e]
      exact Nat.mul_le_mul_right _ (by omega)
    · rw [if_neg hc]
      refine ⟨Nat.le_refl _, h, ?_⟩
      have : 1 ≤ 16 ^ (k + 1) := Nat.pos_of_ne_zero (by simp)
      calc v ≤ (v + 1) * 1 := by omega
        _ ≤ (v + 1) * 16 ^ (k + 1) := Nat.mul_le_mul_left _ this
theorem wsC_lt (s : ByteArray) (p : Nat) (h : wsC (byt s p) = true) : p < s.size := by
  by_cases hp : p < s.size
  · exact hp
  · rw [byt_end s p (by omega)] at h; exact absurd h (by decide)
theorem esc_ge (s : ByteArray) (i : Nat) (h : i ≤ s.size) : i ≤ (esc s i).2 ∧ (esc s i).2 ≤ s.size := by
  unfold esc
  by_cases h1 : s.size ≤ i
  · rw [if_pos h1]; exact ⟨Nat.le_refl _, h⟩
  rw [if_neg h1]
  by_cases h2 : hexI (byt s i) = true
  · rw [if_pos h2]
    obtain ⟨a, b, _⟩ := hexR_le s 5 (i + 1) (hxI (byt s i)).toNat (by omega)
    show _ ∧ (if _ then _ else _) ≤ _
    split
    · rename_i hw
      have := wsC_lt s _ hw
      exact ⟨by show i ≤ _ + 1; omega, this⟩
    · exact ⟨by show i ≤ _; omega, b⟩
  · rw [if_neg h2]
    have := wid_le s i h
    exact ⟨by show i ≤ i + _; omega, this⟩
theorem hexI_cp (s : ByteArray) (q : Nat) (hq : q ≤ s.size) : hexI (cpOf s q) = (decide (q < s.size) && hexI (byt s q)) ∧ (hexI (cpOf s q) = true → cpOf s q = (byt s q : Int)) := by
  by_cases hl : q < s.size
  · by_cases hb : byt s q < 128
    · rw [cp_asc s q hl hb]; simp [hl]
    · have h1 := cp_hi s q hl (by omega)
      have e1 : hexI (cpOf s q) = false := by unfold hexI; simp; omega
      have e2 : hexI (byt s q : Nat) = false := by unfold hexI; simp; omega
      rw [e1, e2]; simp
  · obtain rfl : q = s.size := by omega
    rw [cp_end]; simp; decide
theorem hx106 (c : Int) (h0 : -1 ≤ c) (h1 : c ≤ 1114111) (w : World) : Calls Tryd.prog 106 #[.int .i32 c] w fun e w' => e = .returned (.tuple #[.int .i64 (hxI c), .bool (hexI c)]) ∧ w = w' := by
  by_cases a1 : 48 ≤ c <;> by_cases a2 : c ≤ 57 <;> by_cases b1 : 97 ≤ c <;> by_cases b2 : c ≤ 102 <;> by_cases c1 : 65 ≤ c <;> by_cases c2 : c ≤ 70 <;> (try omega) <;> (have HR := Lib.hid (show hxI c = (if 48 ≤ c ∧ c ≤ 57 then c - 48 else if 97 ≤ c ∧ c ≤ 102 then c - 87 else if 65 ≤ c ∧ c ≤ 70 then c - 55 else 0) from rfl); have HX := Lib.hid (show hexI c = decide ((48 ≤ c ∧ c ≤ 57) ∨ (97 ≤ c ∧ c ≤ 102) ∨ (65 ≤ c ∧ c ≤ 70)) from rfl); go_enter Tryd.func106, Tryd.ntmps106; go_wp2_with fail; go_ret2; refine ⟨?_, rfl⟩; rw [HR.out, HX.out]; simp [*]; try omega)
end Go.Proofs.YtocciemgdikmjaaDoor
