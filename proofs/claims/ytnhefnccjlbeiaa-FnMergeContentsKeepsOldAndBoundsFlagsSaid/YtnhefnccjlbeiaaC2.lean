/-
  Contracts of mkSymbol and MergeContentsWith.
-/
import Derived.Test.YtnhefnccjlbeiaaC1
import Derived.Laws.Rows
import Derived.Laws.AppendOwn
namespace Go.Proofs.Ytnhefnccjlbeiaa
open Go.ChangeShapes Go.WideShapes Go.ChangeAt Go.RowKit
set_option linter.unusedVariables false
abbrev symV (k f : Int) (n : ByteArray) (c : Int) : Array Value := #[.pointer none, .string n, .int .u32 0, .int .u32 0, .int .u32 c, .int .u32 0, .int .u32 0, .int .u16 f, .int .u8 k, .int .u8 0]
def Sy (w : World) (g : Nat) (k f : Int) (n : ByteArray) (c : Int) : Prop := w.heap[g]? = some (.cells (symV k f n c) 49 (0, 0))
theorem Sy.cell {w : World} {g : Nat} {k f : Int} {n : ByteArray} {c : Int} (h : Sy w g k f n c) (i : Nat) : w.cell? ⟨g, i, none⟩ = (symV k f n c)[i]? := by
  unfold Sy at h
  simp only [World.cell?, h]; rfl
theorem Sy.frozen {w : World} {g : Nat} {k f : Int} {n : ByteArray} {c : Int} (h : Sy w g k f n c) (i : Nat) : w.frozen? ⟨g, i, none⟩ = false := by
  unfold Sy at h
  simp [World.frozen?, h]
theorem Sy.lt {w : World} {g : Nat} {k f : Int} {n : ByteArray} {c : Int} (h : Sy w g k f n c) : g < w.heap.size := (Array.getElem?_eq_some_iff.1 h).1
theorem mk_sym (k f : Int) (n : ByteArray) (c : Int) (w : World) : Calls Try.prog 27 #[.int .u8 k, .int .u16 f, .string n, .int .u32 c] w fun e w' => e = .returned (.agg (symV k f n c)) ∧ Below w.heap.size w w' := by
  go_enter Try.func27, Try.ntmps27
  go_wp2
  exact bodyPost_ret (v := .agg (symV k f n c)) (by simp [results, Try.results27, go_sem]) rfl ⟨rfl, (Below.refl _ _).alloc (Nat.le_refl _) _⟩
theorem sym_set {w : World} {g : Nat} {cs : Array Value} (h : w.heap[g]? = some (.cells cs 49 (0, 0))) (i : Nat) (v : Value) : (w.setCell ⟨g, i, none⟩ v).heap[g]? = some (.cells (cs.setIfInBounds i v) 49 (0, 0)) := heap_setCell_same w g i cs 49 v h
theorem grown_refl (w : World) (row : Option Nat) : w.grownBy w row := ⟨rfl, rfl, rfl, Nat.le_refl _, fun _ _ _ => rfl⟩
theorem grown_set {a w : World} {g : Nat} (h : a.grownBy w (some g)) (i : Nat) (u : Value) : a.grownBy (w.setCell ⟨g, i, none⟩ u) (some g) :=
  ⟨h.os, h.tape, h.output, by simpa [World.setCell] using h.size, fun k hi hne => (Below.heap_setCell w ⟨g, i, none⟩ u k (by rintro rfl; exact hne rfl)).trans (h.block k hi hne)⟩
theorem grown_drew {a w : World} {row : Option Nat} (h : a.grownBy w row) : a.grownBy w.drew row := ⟨h.os, h.tape, h.output, h.size, h.block⟩
def addN (b1 b2 : Bool) (n n' : ByteArray) : ByteArray := match b1, b2 with | true, false => n' | _, _ => n
set_option maxHeartbeats 1000000 in
theorem merge_any (w : World) (g h : Nat) (k f : Int) (n : ByteArray) (c : Int) (k' f' : Int) (n' : ByteArray) (c' : Int) (b1 b2 b3 : Bool) (hn : n.size ≤ maxLen) (hn' : n'.size ≤ maxLen)
    (hg : Sy w g k f n c) (hh : Sy w h k' f' n' c') (hne : g ≠ h) (hb1 : (band f' 1 != 0) = b1) (hb2 : (band f 1 != 0) = b2) (hb3 : (band f' 2 != 0) = b3) :
    Calls Try.prog 28 #[.pointer (some ⟨g, 0, none⟩), .pointer (some ⟨h, 0, none⟩)] w fun e w' => e = .returned (.tuple #[]) ∧ Sy w' g k (addF b1 b2 b3 f) (addN b1 b2 n n') ((c + c') % 4294967296) ∧ w.grownBy w' (some g) := by
  have c1 : w.cell? ⟨g, 1, none⟩ = some (.string n) := hg.cell 1
  have c4 : w.cell? ⟨g, 4, none⟩ = some (.int .u32 c) := hg.cell 4
  have c7 : w.cell? ⟨g, 7, none⟩ = some (.int .u16 f) := hg.cell 7
  have z1 := hg.frozen 1
  have z4 := hg.frozen 4
  have z7 := hg.frozen 7
  have d1 : w.cell? ⟨h, 1, none⟩ = some (.string n') := hh.cell 1
  have d4 : w.cell? ⟨h, 4, none⟩ = some (.int .u32 c') := hh.cell 4
  have d7 : w.cell? ⟨h, 7, none⟩ = some (.int .u16 f') := hh.cell 7
  have hne' : h ≠ g := fun e => hne e.symm
  have HG := Lib.hid hg
  clear hg hh
  have fin : ∀ (W : World) (F : Int) (N : ByteArray) (C : Int), Sy W g k F N C → w.grownBy W (some g) → F = addF b1 b2 b3 f → N = addN b1 b2 n n' → C = (c + c') % 4294967296 → Sy W.drew g k (addF b1 b2 b3 f) (addN b1 b2 n n') ((c + c') % 4294967296) ∧ w.grownBy W.drew (some g) := by
    intro W F N C h1 h2 e1 e2 e3
    subst e1 e2 e3
    exact ⟨h1, grown_drew h2⟩
  have HF := Lib.hid fin
  clear fin
  have s0 : ∀ C, Sy (w.setCell ⟨g, 4, none⟩ (.int .u32 C)) g k f n C := fun C => sym_set HG.out 4 _
  have g0 : ∀ C, w.grownBy (w.setCell ⟨g, 4, none⟩ (.int .u32 C)) (some g) := fun C => grown_set (grown_refl _ _) _ _
  have S0 := Lib.hid s0; have G0 := Lib.hid g0
  clear s0 g0
  by_cases hr : b1 = true ∧ b2 = false
  · obtain ⟨rfl, rfl⟩ := hr
    cases b3
    · go_enter Try.func28, Try.ntmps28
      go_wp2
      go_region
      go_wp2
      go_end0
      exact ⟨rfl, HF.out _ (bor f 1) n' _ (sym_set (sym_set (S0.out _) 1 _) 7 _) (grown_set (grown_set (G0.out _) _ _) _ _) rfl rfl rfl⟩
    · go_enter Try.func28, Try.ntmps28
      go_wp2
      go_region
      go_wp2
      go_end0
      exact ⟨rfl, HF.out _ (bor (bor f 1) 2) n' _ (sym_set (sym_set (sym_set (S0.out _) 1 _) 7 _) 7 _) (grown_set (grown_set (grown_set (G0.out _) _ _) _ _) _ _) rfl rfl rfl⟩
  · cases b3
    · have e1 : f = addF b1 b2 false f := by revert hr; cases b1 <;> cases b2 <;> simp [addF]
      have e2 : n = addN b1 b2 n n' := by revert hr; cases b1 <;> cases b2 <;> simp [addN]
      have E1 := Lib.hid e1; have E2 := Lib.hid e2
      clear e1 e2
      cases b1
      · go_enter Try.func28, Try.ntmps28
        go_wp2
        go_region
        go_wp2
        go_end0
        exact ⟨rfl, HF.out _ f n _ (S0.out _) (G0.out _) E1.out E2.out rfl⟩
      · obtain rfl : b2 = true := by revert hr; cases b2 <;> simp
        go_enter Try.func28, Try.ntmps28
        go_wp2
        go_region
        go_wp2
        go_end0
        exact ⟨rfl, HF.out _ f n _ (S0.out _) (G0.out _) E1.out E2.out rfl⟩
    · have e1 : bor f 2 = addF b1 b2 true f := by revert hr; cases b1 <;> cases b2 <;> simp [addF]
      have e2 : n = addN b1 b2 n n' := by revert hr; cases b1 <;> cases b2 <;> simp [addN]
      have E1 := Lib.hid e1; have E2 := Lib.hid e2
      clear e1 e2
      cases b1
      · go_enter Try.func28, Try.ntmps28
        go_wp2
        go_region
        go_wp2
        go_end0
        exact ⟨rfl, HF.out _ (bor f 2) n _ (sym_set (S0.out _) 7 _) (grown_set (G0.out _) _ _) E1.out E2.out rfl⟩
      · obtain rfl : b2 = true := by revert hr; cases b2 <;> simp
        go_enter Try.func28, Try.ntmps28
        go_wp2
        go_region
        go_wp2
        go_end0
        exact ⟨rfl, HF.out _ (bor f 2) n _ (sym_set (S0.out _) 7 _) (grown_set (G0.out _) _ _) E1.out E2.out rfl⟩
