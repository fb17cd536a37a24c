/-
  next: its token laid anew.
-/
import Derived.Test.YtocciemgdikmjaaDoorD3
import Derived.Test.YtocciemgdikmjaaDoorD4
import Derived.Test.YtocciemgdikmjaaDoorH6
import Derived.RegionTactic
import Derived.LoopN
namespace Go.Proofs.YtocciemgdikmjaaDoor
open Go.ChangeShapes Go.WideShapes Go.ChangeAt Go.RowKit
open Go.Lib (decodeN decode_at decodeGo)
set_option linter.unusedVariables false
theorem CL.set36 {w : World} {g : Nat} {s : ByteArray} {nl cur cp st ln : Int} (h : CL w g s nl cur cp st ln) (v : Int) : CL (w.setCell ⟨g, 36, none⟩ (.int .i32 v)) g s nl cur cp v ln :=
  ⟨by simpa using h.lt, by rw [cell_set_ne _ _ _ _ _ (by omega)]; exact h.c10, by rw [cell_set_ne _ _ _ _ _ (by omega)]; exact h.c32, by rw [cell_set_ne _ _ _ _ _ (by omega)]; exact h.c33, by rw [cell_set_ne _ _ _ _ _ (by omega)]; exact h.c35, World.cell?_setCell_same _ _ _ h.c36, by rw [cell_set_ne _ _ _ _ _ (by omega)]; exact h.c37, fun i => by simpa using h.fz i⟩
def rst (w : World) (g p : Nat) : World := ((((w.setCell ⟨g, 36, none⟩ (.int .i32 p)).setCell ⟨g, 37, none⟩ (.int .i32 0)).setCell ⟨g, 38, none⟩ (.int .u16 0)).setCell ⟨g, 39, none⟩ (.int .u8 0)).setCell ⟨g, 40, none⟩ (.int .u8 0)
theorem rst_go {w0 w w1 : World} {g : Nat} {s : ByteArray} {C : Nat → Option Value} {p st : Nat} {u k f : Int} (h : Go2 w0 w w1 g s C p st u k f) : Go2 w0 w (rst w1 g p) g s C p p 0 0 0 := by
  have a1 : Go2 w0 w ((w1.setCell ⟨g, 36, none⟩ (.int .i32 p)).setCell ⟨g, 37, none⟩ (.int .i32 0)) g s C p p u k f := by
    have hb := below_set (below_set h.1.be h.1.lo 36 (.int .i32 p)) h.1.lo 37 (.int .i32 0)
    refine ⟨⟨?_, ?_, ?_, ?_, ?_, h.1.tb, hb, h.1.lo⟩, grown_set (grown_set h.2 _ _) _ _⟩
    · unfold At
      rw [show (p : Int) - (p : Int) = 0 by omega]
      exact CL.set37 (CL.set36 h.1.at_ (p : Int)) 0
    · rw [cell_set_ne _ _ _ _ _ (by omega), cell_set_ne _ _ _ _ _ (by omega)]; exact h.1.c38
    · rw [cell_set_ne _ _ _ _ _ (by omega), cell_set_ne _ _ _ _ _ (by omega)]; exact h.1.c39
    · rw [cell_set_ne _ _ _ _ _ (by omega), cell_set_ne _ _ _ _ _ (by omega)]; exact h.1.c40
    · intro i hi
      rw [cell_set_ne _ _ _ _ _ (by omega), cell_set_ne _ _ _ _ _ (by omega)]; exact h.1.oth i hi
  exact ((a1.set38 0).set39 0).set40 0
theorem ws_cp (s : ByteArray) (q : Nat) (hq : q ≤ s.size) : wsI (cpOf s q) = (decide (q < s.size) && wsC (byt s q)) := by
  by_cases hl : q < s.size
  · by_cases hb : byt s q < 128
    · rw [cp_asc s q hl hb, wsI_C]; simp [hl]
    · have h1 := cp_hi s q hl (by omega)
      have e1 : wsI (cpOf s q) = false := by unfold wsI; simp; omega
      have e2 : wsC (byt s q) = false := by unfold wsC; simp; omega
      rw [e1, e2]; simp
  · obtain rfl : q = s.size := by omega
    rw [cp_end]; simp; decide
theorem no47 {s : ByteArray} (h : Dom s) (p : Nat) (hp : p ≤ s.size) : cpOf s p ≠ 47 := by
  intro e
  obtain ⟨a, b⟩ := cp_is s p hp 47 (by omega) e
  exact (h p a).1 b
theorem flsI (b k : Int) (h : b ≠ k) : (b == k) = false := by rw [beq_eq_false_iff_ne]; exact h
theorem cnum80' {w0 w : World} {g : Nat} {s : ByteArray} {C : Nat → Option Value} {p : Nat} {k f : Int} (h : Pl w0 w g s C p p 0 k f) (hp : p ≤ s.size) (hs : s.size ≤ 1048576) (hD : Dom s) :
    Calls Tryd.prog 80 #[.pointer (some ⟨g, 0, none⟩)] w fun e w' => e = .returned (.int .u8 (numT s p).k) ∧ Go2 w0 w w' g s C (numT s p).e p (numT s p).u k f := by
  have h1 := cnum80 h hp hs (Nat.le_refl p) hD rfl
  by_cases hw : wslA s (numE s p) = true
  · rw [show numT s p = ⟨26, nmE s (numE s p), (numE s p - p) % 65536, 0⟩ by unfold numT; rw [if_pos hw]]
    simp only [hw, ↓reduceIte] at h1
    exact h1
  · have hw' : wslA s (numE s p) = false := by simpa using hw
    by_cases hq : byt s (numE s p) = 37
    · rw [show numT s p = ⟨34, numE s p + 1, 0, 0⟩ by unfold numT; rw [if_neg hw, if_pos hq]]
      simp only [hw', hq, Bool.false_eq_true, ↓reduceIte] at h1
      exact h1
    · rw [show numT s p = ⟨30, numE s p, 0, 0⟩ by unfold numT; rw [if_neg hw, if_neg hq]]
      simp only [hw', hq, Bool.false_eq_true, ↓reduceIte] at h1
      exact h1
end Go.Proofs.YtocciemgdikmjaaDoor
