/-
  SourceMap.Find: the binary search ends at a boundary of (line, column) at most the queried one.
-/
import Derived.Test.YtnhefnccjlbeiaaG2
namespace Go.Proofs.Ytnhefnccjlbeiaa
open Go.ChangeShapes Go.WideShapes Go.ChangeAt Go.RowKit
set_option linter.unusedVariables false
def le2 (l c : Int) (p : Int × Int) : Prop := p.1 < l ∨ (p.1 = l ∧ p.2 ≤ c)
theorem Maps.six {w : World} {g : Nat} {ps : List (Int × Int)} (h : Maps w g ps) {k : Nat} (hk : k < ps.length) :
    w.cell? ⟨g, k * 6, none⟩ = some (.int .i32 (ps.getD k (0, 0)).1) ∧ w.cell? ⟨g, k * 6 + 1, none⟩ = some (.int .i32 (ps.getD k (0, 0)).2) ∧ w.cell? ⟨g, k * 6 + 2, none⟩ = some (.int .i32 0) ∧ w.cell? ⟨g, k * 6 + 3, none⟩ = some (.int .i32 0) ∧ w.cell? ⟨g, k * 6 + 4, none⟩ = some (.int .i32 0) ∧ w.cell? ⟨g, k * 6 + 5, none⟩ = some (.int .u32 0) := by
  simp only [h.cell]
  exact mapC_get ps k hk
theorem Maps.grown {w wr : World} {g : Nat} {ps : List (Int × Int)} (h : Maps w g ps) (hg : w.grownBy wr none) : Maps wr g ps :=
  (hg.block g (Array.getElem?_eq_some_iff.1 h.eq).1 (by simp)).trans h.eq
theorem grownby_more {w wr : World} (hg : w.grownBy wr none) (o : Obj) : w.grownBy (wr.alloc o) none :=
  ⟨hg.os, hg.tape, hg.output, by have := (grownby_alloc wr o).size; have := hg.size; omega, fun k hk hn => ((grownby_alloc wr o).block k (by have := hg.size; omega) hn).trans (hg.block k hk hn)⟩
set_option maxRecDepth 100000 in
set_option maxHeartbeats 4000000 in
theorem find_any (w : World) (s g n : Nat) (l c : Int) (ps : List (Int × Int)) (hn : n ≤ 65536)  (hm : Maps w g ps) (hl : ps.length = n)
  (h1 : w.cell? ⟨s, 2, none⟩ = some (.slice (some ⟨g, 0, none⟩) n n)) : Calls Try.prog 36 #[.pointer (some ⟨s, 0, none⟩), .int .i32 l, .int .i32 c] w fun e w' => w.grownBy w' none ∧ ∃ a : Nat, a ≤ n ∧ (a = 0 ∨ le2 l c (ps.getD (a - 1) (0, 0))) ∧ (a = n ∨ ¬ le2 l c (ps.getD a (0, 0))) ∧
      ((0 < a ∧ (ps.getD (a - 1) (0, 0)).1 = l ∧ e = .returned (.pointer (some ⟨g, (a - 1) * 6, none⟩))) ∨ (¬ (0 < a ∧ (ps.getD (a - 1) (0, 0)).1 = l) ∧ e = .returned (.pointer none))) := by
  have HM := Lib.hid hm
  clear hm
  go_enter Try.func36, Try.ntmps36
  go_wp2
  go_loopw [8, 9] (fun cnt idx wr => ∃ a b : Nat, a + b ≤ n ∧ cnt = .int .i64 b ∧ idx = .int .i64 a ∧ w.grownBy wr none ∧ (a = 0 ∨ le2 l c (ps.getD (a - 1) (0, 0))) ∧ (a + b = n ∨ ¬ le2 l c (ps.getD (a + b) (0, 0)))) (fun cnt _ _ => (intOf cnt).toNat)
  case atStart => exact ⟨0, n, by omega, rfl, rfl, World.grownBy.refl _ _, Or.inl rfl, Or.inl (by omega)⟩
  case round =>
    obtain ⟨a, b, hk, rfl, rfl, hg, ha, hb⟩ := hrel
    have HA := Lib.hid ha; have HB := Lib.hid hb; have HG := Lib.hid hg; have HW := Lib.hid (HM.out.grown hg)
    clear ha hb hg
    by_cases hb : 0 < b
    · obtain ⟨q0, q1, q2, q3, q4, q5⟩ := HW.out.six (k := a + b / 2) (by omega)
      generalize hp : ps.getD (a + b / 2) (0, 0) = pq at q0 q1
      obtain ⟨p, q⟩ := pq
      have HP := Lib.hid hp
      clear hp
      dsimp only at q0 q1
      by_cases c1 : p < l
      · go_wp2
        go_roundw
        case rel => exact ⟨a + b / 2 + 1, b - (b / 2 + 1), by omega, by go_num, by go_num, grownby_more HG.out _, Or.inr (by rw [Nat.add_sub_cancel, HP.out]; exact Or.inl c1), by rw [show a + b / 2 + 1 + (b - (b / 2 + 1)) = a + b by omega]; exact HB.out⟩
        case measure => simp [intOf]; omega
      by_cases c2 : p = l
      · by_cases c3 : q ≤ c
        · go_wp2
          go_roundw
          case rel => exact ⟨a + b / 2 + 1, b - (b / 2 + 1), by omega, by go_num, by go_num, grownby_more HG.out _, Or.inr (by rw [Nat.add_sub_cancel, HP.out]; exact Or.inr ⟨c2, c3⟩), by rw [show a + b / 2 + 1 + (b - (b / 2 + 1)) = a + b by omega]; exact HB.out⟩
          case measure => simp [intOf]; omega
        · go_wp2
          go_roundw
          case rel => exact ⟨a, b / 2, by omega, by go_num, by go_num, grownby_more HG.out _, HA.out, Or.inr (by rw [HP.out]; rintro (h | ⟨_, h⟩); exact c1 h; exact c3 h)⟩
          case measure => simp [intOf]; omega
      · go_wp2
        go_roundw
        case rel => exact ⟨a, b / 2, by omega, by go_num, by go_num, grownby_more HG.out _, HA.out, Or.inr (by rw [HP.out]; rintro (h | ⟨h, _⟩); exact c1 h; exact c2 h)⟩
        case measure => simp [intOf]; omega
    · obtain rfl : b = 0 := by omega
      by_cases ha : 0 < a
      · obtain ⟨q0, q1, -⟩ := HW.out.six (k := a - 1) (by omega)
        obtain ⟨a, rfl⟩ : ∃ t, a = t + 1 := ⟨a - 1, by omega⟩
        simp only [Nat.add_sub_cancel] at q0 q1
        generalize hp : (ps.getD a (0, 0)).1 = p at q0
        have HP := Lib.hid hp
        clear hp q1
        by_cases c1 : p = l
        · have C1 := Lib.hid c1
          go_wp2
          go_ret
          exact ⟨HG.out, a + 1, by omega, HA.out, HB.out, Or.inl ⟨ha, HP.out.trans C1.out, rfl⟩⟩
        · have C1 := Lib.hid c1
          go_wp2
          go_ret
          exact ⟨HG.out, a + 1, by omega, HA.out, HB.out, Or.inr ⟨fun h => C1.out (HP.out.symm.trans h.2), rfl⟩⟩
      · obtain rfl : a = 0 := by omega
        have HH := Lib.hid ha
        go_wp2
        go_ret
        exact ⟨HG.out, 0, by omega, Or.inl rfl, HB.out, Or.inr ⟨by rintro ⟨h, _⟩, rfl⟩⟩
end Go.Proofs.Ytnhefnccjlbeiaa
