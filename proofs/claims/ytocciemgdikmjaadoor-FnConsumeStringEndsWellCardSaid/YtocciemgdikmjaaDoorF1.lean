/-
  The css lexer in memory, and step.
-/
import Derived.Test.YtocciemgdikmjaaDoorE2
import Derived.Laws.Tables
import Derived.Great.BuildSlice
import Derived.Deep.RegionWith
import Derived.RegionTactic
import Derived.Laws.AppendOwn
namespace Go.Proofs.YtocciemgdikmjaaDoor
open Go.ChangeShapes Go.WideShapes Go.ChangeAt Go.RowKit
open Go.Lib (decodeN decode_at decodeGo)
set_option linter.unusedVariables false
/-- the cells of the lexer that step reads or writes -/
structure CL (w : World) (g : Nat) (s : ByteArray) (nl cur cp st ln : Int) : Prop where
  lt : g < w.heap.size
  c10 : w.cell? ⟨g, 10, none⟩ = some (.string s)
  c32 : w.cell? ⟨g, 32, none⟩ = some (.int .i64 nl)
  c33 : w.cell? ⟨g, 33, none⟩ = some (.int .i64 cur)
  c35 : w.cell? ⟨g, 35, none⟩ = some (.int .i32 cp)
  c36 : w.cell? ⟨g, 36, none⟩ = some (.int .i32 st)
  c37 : w.cell? ⟨g, 37, none⟩ = some (.int .i32 ln)
  fz : ∀ i, w.frozen? ⟨g, i, none⟩ = false
section
variable {w w' : World} {g : Nat} {s : ByteArray} {nl cur cp st ln : Int}
theorem CL.keep (h : CL w g s nl cur cp st ln) (hb : Below w.heap.size w w') : CL w' g s nl cur cp st ln :=
  ⟨Nat.lt_of_lt_of_le h.lt hb.size, by rw [hb.cell h.lt]; exact h.c10, by rw [hb.cell h.lt]; exact h.c32, by rw [hb.cell h.lt]; exact h.c33, by rw [hb.cell h.lt]; exact h.c35, by rw [hb.cell h.lt]; exact h.c36, by rw [hb.cell h.lt]; exact h.c37, fun i => by rw [hb.frozen h.lt]; exact h.fz i⟩
theorem CL.drew (h : CL w g s nl cur cp st ln) : CL w.drew g s nl cur cp st ln := ⟨h.lt, h.c10, h.c32, h.c33, h.c35, h.c36, h.c37, h.fz⟩
theorem cell_set_ne (w : World) (g i j : Nat) (v : Value) (h : i ≠ j) : (w.setCell ⟨g, i, none⟩ v).cell? ⟨g, j, none⟩ = w.cell? ⟨g, j, none⟩ :=
  World.cell?_setCell_other _ _ _ _ (by intro e; injection e; omega)
theorem CL.set32 (h : CL w g s nl cur cp st ln) (v : Int) : CL (w.setCell ⟨g, 32, none⟩ (.int .i64 v)) g s v cur cp st ln :=
  ⟨by simpa using h.lt, by rw [cell_set_ne _ _ _ _ _ (by omega)]; exact h.c10, World.cell?_setCell_same _ _ _ h.c32, by rw [cell_set_ne _ _ _ _ _ (by omega)]; exact h.c33, by rw [cell_set_ne _ _ _ _ _ (by omega)]; exact h.c35, by rw [cell_set_ne _ _ _ _ _ (by omega)]; exact h.c36, by rw [cell_set_ne _ _ _ _ _ (by omega)]; exact h.c37, fun i => by simpa using h.fz i⟩
theorem CL.set33 (h : CL w g s nl cur cp st ln) (v : Int) : CL (w.setCell ⟨g, 33, none⟩ (.int .i64 v)) g s nl v cp st ln :=
  ⟨by simpa using h.lt, by rw [cell_set_ne _ _ _ _ _ (by omega)]; exact h.c10, by rw [cell_set_ne _ _ _ _ _ (by omega)]; exact h.c32, World.cell?_setCell_same _ _ _ h.c33, by rw [cell_set_ne _ _ _ _ _ (by omega)]; exact h.c35, by rw [cell_set_ne _ _ _ _ _ (by omega)]; exact h.c36, by rw [cell_set_ne _ _ _ _ _ (by omega)]; exact h.c37, fun i => by simpa using h.fz i⟩
theorem CL.set35 (h : CL w g s nl cur cp st ln) (v : Int) : CL (w.setCell ⟨g, 35, none⟩ (.int .i32 v)) g s nl cur v st ln :=
  ⟨by simpa using h.lt, by rw [cell_set_ne _ _ _ _ _ (by omega)]; exact h.c10, by rw [cell_set_ne _ _ _ _ _ (by omega)]; exact h.c32, by rw [cell_set_ne _ _ _ _ _ (by omega)]; exact h.c33, World.cell?_setCell_same _ _ _ h.c35, by rw [cell_set_ne _ _ _ _ _ (by omega)]; exact h.c36, by rw [cell_set_ne _ _ _ _ _ (by omega)]; exact h.c37, fun i => by simpa using h.fz i⟩
theorem CL.set37 (h : CL w g s nl cur cp st ln) (v : Int) : CL (w.setCell ⟨g, 37, none⟩ (.int .i32 v)) g s nl cur cp st v :=
  ⟨by simpa using h.lt, by rw [cell_set_ne _ _ _ _ _ (by omega)]; exact h.c10, by rw [cell_set_ne _ _ _ _ _ (by omega)]; exact h.c32, by rw [cell_set_ne _ _ _ _ _ (by omega)]; exact h.c33, by rw [cell_set_ne _ _ _ _ _ (by omega)]; exact h.c35, by rw [cell_set_ne _ _ _ _ _ (by omega)]; exact h.c36, World.cell?_setCell_same _ _ _ h.c37, fun i => by simpa using h.fz i⟩
/-- of the lexer's block only the four cells may have turned; of all else nothing -/
structure Stepped (w w' : World) (g : Nat) : Prop where
  by_ : w.grownBy w' (some g)
  cells : ∀ i, i ≠ 32 → i ≠ 33 → i ≠ 35 → i ≠ 37 → w'.cell? ⟨g, i, none⟩ = w.cell? ⟨g, i, none⟩
theorem Stepped.refl (w : World) (g : Nat) : Stepped w w g := ⟨⟨rfl, rfl, rfl, Nat.le_refl _, fun _ _ _ => rfl⟩, fun _ _ _ _ _ => rfl⟩
theorem Stepped.below {w w1 w2 : World} (h : Stepped w w1 g) (hb : Below w1.heap.size w1 w2) (hg : g < w1.heap.size) : Stepped w w2 g :=
  ⟨⟨hb.os.trans h.by_.os, hb.tape.trans h.by_.tape, hb.output.trans h.by_.output, Nat.le_trans h.by_.size hb.size, fun k hk hn => (hb.block k (Nat.lt_of_lt_of_le hk h.by_.size)).trans (h.by_.block k hk hn)⟩, fun i a b c d => by rw [hb.cell hg]; exact h.cells i a b c d⟩
theorem Stepped.drew {w w1 : World} (h : Stepped w w1 g) : Stepped w w1.drew g := ⟨⟨h.by_.os, h.by_.tape, h.by_.output, h.by_.size, h.by_.block⟩, h.cells⟩
theorem Stepped.set {w w1 : World} (h : Stepped w w1 g) (j : Nat) (v : Value) (hj : j = 32 ∨ j = 33 ∨ j = 35 ∨ j = 37) : Stepped w (w1.setCell ⟨g, j, none⟩ v) g :=
  ⟨⟨h.by_.os, h.by_.tape, h.by_.output, by simpa [World.setCell] using h.by_.size, fun k hi hne => (Below.heap_setCell w1 ⟨g, j, none⟩ v k (by rintro rfl; exact hne rfl)).trans (h.by_.block k hi hne)⟩,
   fun i a b c d => by rw [cell_set_ne _ _ _ _ _ (by omega)]; exact h.cells i a b c d⟩
end
theorem tabs_drew {w : World} (hT : Lib.Utf8Tabs 0 1 w) : Lib.Utf8Tabs 0 1 w.drew := ⟨hT.1, hT.2⟩
theorem dec_le (x : ByteArray) : (decodeGo x).2 ≤ 4 := by
  unfold decodeGo
  split
  · simp
  · rw [decode_at]
    unfold decodeN
    repeat' split
    all_goals simp
/-- what step makes of the code point -/
def cpOf (s : ByteArray) (cur : Nat) : Int := if (decodeGo (s.extract cur s.size)).2 = 0 then -1 else (decodeGo (s.extract cur s.size)).1
set_option maxHeartbeats 4000000 in
theorem step_core (w : World) (g : Nat) (s : ByteArray) (nl : Int) (cur : Nat) (cp st ln : Int) (x : ByteArray) (C K : Nat) (nl' cp' : Int) (h : CL w g s nl cur cp st ln) (hT : Lib.Utf8Tabs 0 1 w) (hc : cur ≤ s.size) (hs : s.size ≤ 1048576) (h0 : 0 ≤ st) (h1 : st ≤ cur) (hn0 : 0 ≤ nl) (hn1 : nl ≤ 4294967296)
    (hx : s.extract cur s.size = x) (hC : (decodeGo x).1 = C) (hK : (decodeGo x).2 = K) (e1 : K = 0 → cp' = -1 ∧ nl' = nl) (e2 : K ≠ 0 → C = 10 → cp' = 10 ∧ nl' = nl + 1) (e3 : K ≠ 0 → C ≠ 10 → cp' = C ∧ nl' = nl) :
    Calls Tryd.prog 54 #[.pointer (some ⟨g, 0, none⟩)] w fun e w' => e = .returned (.tuple #[]) ∧ CL w' g s nl' (cur + K : Nat) cp' st (cur - st) ∧ Stepped w w' g := by
  have hK4 : K ≤ 4 := by rw [← hK]; exact dec_le x
  obtain ⟨l, c10, c32, c33, c35, c36, c37, fz⟩ := id h
  have HH := Lib.hid h; have HX := Lib.hid hx; have HC := Lib.hid hC; have HK := Lib.hid hK
  have E1 := Lib.hid e1; have E2 := Lib.hid e2; have E3 := Lib.hid e3
  clear h hx hC hK e1 e2 e3
  go_enter Tryd.func54, Tryd.ntmps54
  go_wp2
  go_region_with ((go_at_call 69; rw [HX.out]; refine (dec_any x _ (tabs_drew hT) C K HC.out HK.out).mono ?_; rintro e w1 ⟨rfl, hb1⟩; have hcl := HH.out.drew.keep hb1; have hst := (Stepped.refl w g).drew.below hb1 l; obtain ⟨l', d10, d32, d33, d35, d36, d37, fz'⟩ := id hcl; have HCL := Lib.hid hcl; have HST := Lib.hid hst; clear hcl hst hb1))
  all_goals
    by_cases k0 : K = 0
    · obtain ⟨f1, f2⟩ := E1.out k0
      have F1 := Lib.hid f1; have F2 := Lib.hid f2
      clear f1 f2 E1 E2 E3
      subst k0
      go_wp2
      go_region
      go_wp2
      go_end0
      refine ⟨rfl, ?_, (((HST.out.set 35 _ (by simp)).set 37 _ (by simp)).set 33 _ (by simp)).drew⟩
      rw [F1.out, F2.out]
      exact (((HCL.out.set35 (-1)).set37 _).set33 _).drew
    have k1 : ((K : Int) == 0) = false := by simp; omega
    by_cases c0 : C = 10
    · obtain ⟨f1, f2⟩ := E2.out k0 c0
      have F1 := Lib.hid f1; have F2 := Lib.hid f2
      clear f1 f2 E1 E2 E3
      subst c0
      go_wp2
      go_region
      go_wp2
      go_end0
      refine ⟨rfl, ?_, ((((HST.out.set 32 _ (by simp)).set 35 _ (by simp)).set 37 _ (by simp)).set 33 _ (by simp)).drew⟩
      rw [F1.out, F2.out]
      exact ((((HCL.out.set32 _).set35 _).set37 _).set33 _).drew
    · obtain ⟨f1, f2⟩ := E3.out k0 c0
      have F1 := Lib.hid f1; have F2 := Lib.hid f2
      clear f1 f2 E1 E2 E3
      have c1 : ((C : Int) == 10) = false := by simp; omega
      clear c0
      go_wp2
      go_region
      go_wp2
      go_end0
      refine ⟨rfl, ?_, (((HST.out.set 35 _ (by simp)).set 37 _ (by simp)).set 33 _ (by simp)).drew⟩
      rw [F1.out, F2.out]
      exact (((HCL.out.set35 _).set37 _).set33 _).drew
theorem step_any (w : World) (g : Nat) (s : ByteArray) (nl : Int) (cur : Nat) (cp st ln : Int) (h : CL w g s nl cur cp st ln) (hT : Lib.Utf8Tabs 0 1 w) (hc : cur ≤ s.size) (hs : s.size ≤ 1048576) (h0 : 0 ≤ st) (h1 : st ≤ cur) (hn0 : 0 ≤ nl) (hn1 : nl ≤ 4294967296) :
    Calls Tryd.prog 54 #[.pointer (some ⟨g, 0, none⟩)] w fun e w' => e = .returned (.tuple #[]) ∧ CL w' g s (if cpOf s cur = 10 then nl + 1 else nl) (cur + (decodeGo (s.extract cur s.size)).2 : Nat) (cpOf s cur) st (cur - st) ∧ Stepped w w' g := by
  refine step_core w g s nl cur cp st ln _ _ _ _ _ h hT hc hs h0 h1 hn0 hn1 rfl rfl rfl ?_ ?_ ?_
  · intro k
    have : cpOf s cur = -1 := by unfold cpOf; rw [if_pos k]
    rw [this]; exact ⟨rfl, rfl⟩
  · intro k c
    have : cpOf s cur = 10 := by unfold cpOf; rw [if_neg k, c]; rfl
    rw [this]; exact ⟨rfl, rfl⟩
  · intro k c
    have : cpOf s cur = (decodeGo (s.extract cur s.size)).1 := by unfold cpOf; rw [if_neg k]
    rw [this]; exact ⟨rfl, if_neg (by omega)⟩
