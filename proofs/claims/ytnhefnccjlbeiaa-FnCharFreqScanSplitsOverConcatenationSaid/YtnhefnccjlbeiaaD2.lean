/-
  The histogram, plainly: scanning over an append, and undone by the negated delta.
-/
import Derived.Test.YtnhefnccjlbeiaaD1
namespace Go.Proofs.Ytnhefnccjlbeiaa
open Go.ChangeShapes Go.WideShapes Go.ChangeAt Go.RowKit
set_option linter.unusedVariables false
def inR (z : Int) : Prop := -2147483648 ≤ z ∧ z ≤ 2147483647
theorem wrap_in (z : Int) : inR (wrap32 z) := by unfold inR wrap32; omega
theorem wrap_id (z : Int) (h : inR z) : wrap32 z = z := by unfold inR at h; unfold wrap32; omega
theorem wrap_add (a b : Int) : wrap32 (wrap32 a + b) = wrap32 (a + b) := by unfold wrap32; omega
def cnt : List UInt8 → Nat → Int
  | [], _ => 0
  | c :: l, j => (if slotN c.toNat = some j then 1 else 0) + cnt l j
theorem bump_get (d : Int) (zs : List Int) (c : UInt8) (hl : zs.length = 64) (j : Nat) : (bump d zs c).getD j 0 = if slotN c.toNat = some j then wrap32 (zs.getD j 0 + d) else zs.getD j 0 := by
  unfold bump
  cases h : slotN c.toNat with
  | none => simp
  | some i =>
    have hi := slot_lt h
    by_cases e : i = j
    · subst e
      simp [hl, hi]
    · have : ¬ (some i = some j) := fun h => e (by injection h)
      rw [if_neg this]
      simp [List.getElem?_set_ne e]
theorem scan_get (d : Int) (l : List UInt8) : ∀ zs : List Int, (∀ j, inR (zs.getD j 0)) → zs.length = 64 → ∀ j, (scanL d zs l).getD j 0 = wrap32 (zs.getD j 0 + cnt l j * d) := by
  induction l with
  | nil => intro zs h _ j; simp only [scanL, List.foldl_nil, cnt]; rw [Int.zero_mul, Int.add_zero, wrap_id _ (h j)]
  | cons c l ih =>
    intro zs h hl j
    show (scanL d (bump d zs c) l).getD j 0 = _
    rw [ih (bump d zs c) (fun i => by rw [bump_get d zs c hl]; split; exact wrap_in _; exact h i) (by rw [bump_len, hl]) j, bump_get d zs c hl]
    simp only [cnt]
    split
    · rw [Int.add_mul, Int.one_mul, wrap_add, Int.add_assoc]
    · rw [Int.zero_add]
theorem list_ext64 {a b : List Int} (ha : a.length = 64) (hb : b.length = 64) (h : ∀ j, a.getD j 0 = b.getD j 0) : a = b := by
  apply List.ext_getElem (ha.trans hb.symm)
  intro i h1 h2
  have := h i
  simpa [h1, h2] using this
theorem scan_inR (d : Int) (l : List UInt8) (zs : List Int) (h : ∀ j, inR (zs.getD j 0)) (hl : zs.length = 64) : ∀ j, inR ((scanL d zs l).getD j 0) := fun j => by rw [scan_get d l zs h hl]; exact wrap_in _
theorem scan_undone (d : Int) (l : List UInt8) (zs : List Int) (h : ∀ j, inR (zs.getD j 0)) (hl : zs.length = 64) : scanL (wrap32 (-d)) (scanL d zs l) l = zs := by
  apply list_ext64 (by rw [scan_len, scan_len, hl]) hl
  intro j
  rw [scan_get _ _ _ (scan_inR d l zs h hl) (by rw [scan_len, hl]), scan_get d l zs h hl]
  obtain ⟨q, hq⟩ : ∃ q, wrap32 (-d) = -d + 4294967296 * q := ⟨-((-d + 2147483648) / 4294967296), by unfold wrap32; omega⟩
  rw [hq, Int.mul_add, wrap_add]
  have e1 : cnt l j * -d = -(cnt l j * d) := by rw [Int.mul_neg]
  have e2 : cnt l j * (4294967296 * q) = 4294967296 * (cnt l j * q) := by rw [Int.mul_left_comm]
  rw [e1, e2]
  have hz := h j
  generalize cnt l j * d = A
  generalize cnt l j * q = B
  generalize zs.getD j 0 = z at *
  unfold inR at hz
  unfold wrap32
  omega
theorem scan_app (d : Int) (zs : List Int) (a b : List UInt8) : scanL d zs (a ++ b) = scanL d (scanL d zs a) b := by unfold scanL; rw [List.foldl_append]
theorem inR_of (zs : List Int) (h : ∀ z ∈ zs, (Lit.int .i32 z).wf = true) : ∀ j, inR (zs.getD j 0) := by
  intro j
  by_cases hj : j < zs.length
  · have := bounds_i32 (h (zs.getD j 0) (by simp [hj]))
    exact this
  · have : zs.getD j 0 = 0 := by simp [Nat.not_lt.1 hj]
    rw [this]; unfold inR; omega
theorem scan_zero (w : World) (g : Nat) (s : ByteArray) : Calls Try.prog 19 #[.pointer (some ⟨g, 0, none⟩), .string s, .int .i32 0] w fun e w' => e = .returned (.tuple #[]) ∧ w = w' := by
  go_enter Try.func19, Try.ntmps19
  go_wp2
  exact bodyPost_ret (v := .tuple #[]) (by simp [results, Try.results19]) rfl ⟨rfl, rfl⟩
theorem scanz (zs : List Int) (h : ∀ j, inR (zs.getD j 0)) (hl : zs.length = 64) (l : List UInt8) : scanL 0 zs l = zs := by
  apply list_ext64 (by rw [scan_len, hl]) hl
  intro j
  rw [scan_get 0 l zs h hl, Int.mul_zero, Int.add_zero, wrap_id _ (h j)]
/-- Scan, whatever the delta. -/
theorem scan_all (w : World) (g : Nat) (zs : List Int) (s : ByteArray) (d : Int) (hs : s.size ≤ maxLen) (h : Hist w g zs) (hz : ∀ j, inR (zs.getD j 0)) :
    Calls Try.prog 19 #[.pointer (some ⟨g, 0, none⟩), .string s, .int .i32 d] w fun e w' => e = .returned (.tuple #[]) ∧ Hist w' g (scanL d zs s.data.toList) ∧ w.grownBy w' (some g) := by
  by_cases hd : d = 0
  · subst hd
    refine (scan_zero w g s).mono ?_
    rintro e w' ⟨rfl, rfl⟩
    rw [scanz zs hz h.2]
    exact ⟨rfl, h, grownby_refl _ _⟩
  · exact scan_any w g zs s d hs h (by simp [hd])
end Go.Proofs.Ytnhefnccjlbeiaa
