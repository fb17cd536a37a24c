/-
  appendMappingToBuffer, all ways; the builder in memory; appendMappingWithoutRemapping.
-/
import Derived.Test.YtlplikpjnocdfaaDoorA5
import Derived.Test.YtlplikpjnocdfaaDoorA6
import Derived.Test.YtlplikpjnocdfaaDoorA7
import Derived.Deep.DeepCutAuto
import Derived.Deep.RegionHeld3
namespace Go.Proofs.YtlplikpjnocdfaaDoor
open Go.ChangeShapes Go.WideShapes Go.ChangeAt Go.RowKit
set_option linter.unusedVariables false
def cma (lb : Int) : List Int := if lb = 0 ∨ lb = 59 then [] else [44]
def seg4 (d1 d2 d3 d4 : Int) : List Int := enc (zig d1) ++ enc (zig d2) ++ enc (zig d3) ++ enc (zig d4)
theorem cma0 : cma 0 = [] := rfl
theorem cma59 : cma 59 = [] := rfl
theorem cmax (lb : Int) (h0 : lb ≠ 0) (h1 : lb ≠ 59) : cma lb = [44] := by unfold cma; rw [if_neg (by omega)]
def In33 (d : Int) : Prop := -4294967296 ≤ d ∧ d ≤ 4294967296
def outM (xs : List Int) (lb : Int) (hn : Bool) (d1 d2 d3 d4 d5 : Int) : List Int := xs ++ cma lb ++ seg4 d1 d2 d3 d4 ++ (if hn then enc (zig d5) else [])
def nameI (xs : List Int) (lb : Int) (hn : Bool) (d1 d2 d3 d4 : Int) : Int := if hn then flp ((xs ++ cma lb ++ seg4 d1 d2 d3 d4).length : Nat) else 0
theorem app34 (w : World) (B : Nat) (v : Value) (xs : List Int) (lb : Int) (hn : Bool) (p0 p1 p2 p3 p4 p5 : Int) (ph : Bool) (c0 c1 c2 c3 c4 c5 : Int) (R o cc : Nat) (hO : OwnB w B v xs) (hB : B ≤ w.heap.size) (hT : TabB w B R o cc) (hxs : xs.length ≤ 33554432) (hlb : lb ≠ 34)
    (e1 : In33 (c1 - p1)) (e2 : In33 (c2 - p2)) (e3 : In33 (c3 - p3)) (e4 : In33 (c4 - p4)) (e5 : hn = true → In33 (c5 - p5)) (I : Int) (XS : List Int)
    (hI : nameI xs lb hn (c1 - p1) (c2 - p2) (c3 - p3) (c4 - p4) = I) (hX : outM xs lb hn (c1 - p1) (c2 - p2) (c3 - p3) (c4 - p4) (c5 - p5) = XS) :
    Calls Tryd.prog 34 #[v, .int .u8 lb, .agg (stV p0 p1 p2 p3 p4 p5 ph), .agg (stV c0 c1 c2 c3 c4 c5 hn), .bool false] w fun e w' => ∃ v', e = .returned (.tuple #[v', .agg #[.int .u32 I]]) ∧ OwnB w' B v' XS ∧ Mv w w' v v' := by
  subst hI; subst hX
  unfold nameI outM seg4
  by_cases h0 : lb = 0
  · subst h0
    rw [cma0]
    cases hn
    · simpa [List.append_assoc] using app_zp w B v xs p0 p1 p2 p3 p4 p5 ph c0 c1 c2 c3 c4 c5 R o cc hO hB hT hxs e1 e2 e3 e4
    · simpa [List.append_assoc] using app_zn w B v xs p0 p1 p2 p3 p4 p5 ph c0 c1 c2 c3 c4 c5 R o cc hO hB hT hxs e1 e2 e3 e4 (e5 rfl)
  by_cases h1 : lb = 59
  · subst h1
    rw [cma59]
    cases hn
    · simpa [List.append_assoc] using app_sp w B v xs p0 p1 p2 p3 p4 p5 ph c0 c1 c2 c3 c4 c5 R o cc hO hB hT hxs e1 e2 e3 e4
    · simpa [List.append_assoc] using app_sn w B v xs p0 p1 p2 p3 p4 p5 ph c0 c1 c2 c3 c4 c5 R o cc hO hB hT hxs e1 e2 e3 e4 (e5 rfl)
  have k0 : (lb != 0) = true := by simp [h0]
  have k1 : (lb != 59) = true := by simp [h1]
  have k2 : (lb != 34) = true := by simp [hlb]
  rw [cmax lb h0 h1]
  cases hn
  · simpa [List.append_assoc] using app_cp w B v xs lb k0 k1 k2 p0 p1 p2 p3 p4 p5 ph c0 c1 c2 c3 c4 c5 R o cc hO hB hT hxs e1 e2 e3 e4
  · simpa [List.append_assoc] using app_cn w B v xs lb k0 k1 k2 p0 p1 p2 p3 p4 p5 ph c0 c1 c2 c3 c4 c5 R o cc hO hB hT hxs e1 e2 e3 e4 (e5 rfl)
/-- the cells of a builder -/
abbrev bdV (m v : Value) (g c s l o n : Int) (h : Bool) (lu gc fn : Int) (hp ls : Bool) : Array Value :=
  #[.pointer none, v, .slice none 0 0, m, .slice none 0 0, .string ⟨#[]⟩, .int .i64 g, .int .i64 c, .int .i64 s, .int .i64 l, .int .i64 o, .int .i64 n, .bool h, .int .i64 lu, .int .i64 gc, .int .i64 0, .int .i32 (-1), .int .u32 fn, .bool hp, .bool false, .bool ls, .bool true]
/-- a builder lies in block k -/
def Bd (w : World) (k : Nat) (m v : Value) (g c s l o n : Int) (h : Bool) (lu gc fn : Int) (hp ls : Bool) : Prop := w.heap[k]? = some (Obj.cells (bdV m v g c s l o n h lu gc fn hp ls) 61 (0, 0))
section
variable {w w' : World} {k : Nat} {m v : Value} {g c s l o n : Int} {h : Bool} {lu gc fn : Int} {hp ls : Bool}
theorem Bd.lt (b : Bd w k m v g c s l o n h lu gc fn hp ls) : k < w.heap.size := (Array.getElem?_eq_some_iff.1 b).1
theorem Bd.cells (b : Bd w k m v g c s l o n h lu gc fn hp ls) : w.cell? ⟨k, 1, none⟩ = some v ∧ w.cell? ⟨k, 6, none⟩ = some (.int .i64 g) ∧ w.cell? ⟨k, 7, none⟩ = some (.int .i64 c) ∧ w.cell? ⟨k, 8, none⟩ = some (.int .i64 s) ∧ w.cell? ⟨k, 9, none⟩ = some (.int .i64 l) ∧ w.cell? ⟨k, 10, none⟩ = some (.int .i64 o) ∧ w.cell? ⟨k, 11, none⟩ = some (.int .i64 n) ∧ w.cell? ⟨k, 12, none⟩ = some (.bool h) ∧ w.cell? ⟨k, 13, none⟩ = some (.int .i64 lu) ∧ w.cell? ⟨k, 14, none⟩ = some (.int .i64 gc) ∧ w.cell? ⟨k, 17, none⟩ = some (.int .u32 fn) ∧ w.cell? ⟨k, 18, none⟩ = some (.bool hp) ∧ w.cell? ⟨k, 20, none⟩ = some (.bool ls) ∧ w.cell? ⟨k, 21, none⟩ = some (.bool true) ∧ ∀ i, w.frozen? ⟨k, i, none⟩ = false := by
  have b' : w.heap[k]? = some (Obj.cells (bdV m v g c s l o n h lu gc fn hp ls) 61 (0, 0)) := b
  refine ⟨?_, ?_, ?_, ?_, ?_, ?_, ?_, ?_, ?_, ?_, ?_, ?_, ?_, ?_, fun i => ?_⟩
  all_goals first | (simp only [World.cell?, b']; rfl) | (simp only [World.frozen?, b']; simp)
theorem Bd.below (b : Bd w k m v g c s l o n h lu gc fn hp ls) (hb : Below (k + 1) w w') : Bd w' k m v g c s l o n h lu gc fn hp ls := (hb.block k (by omega)).trans b
end
/-- of what was there nothing but block k and the row of v has turned -/
structure MvK (k : Nat) (w w' : World) (v v' : Value) : Prop where
  os : w'.os = w.os
  tape : w'.tape = w.tape
  output : w'.output = w.output
  size : w.heap.size ≤ w'.heap.size
  block : ∀ j, j < w.heap.size → j ≠ k → some j ≠ v.ownBlock → w'.heap[j]? = w.heap[j]?
  at_ : v'.ownBlock = v.ownBlock ∨ ∃ j, v'.ownBlock = some j ∧ w.heap.size ≤ j
theorem Mv.k {w w' : World} {v v' : Value} (h : Mv w w' v v') (k : Nat) : MvK k w w' v v' := ⟨h.g.os, h.g.tape, h.g.output, h.g.size, fun j hj _ hn => h.g.block j hj hn, h.at_⟩
theorem MvK.refl (k : Nat) (w : World) (v : Value) : MvK k w w v v := (Mv.refl w v).k k
theorem MvK.trans {k : Nat} {w w1 w2 : World} {v v1 v2 : Value} (h : MvK k w w1 v v1) (h' : MvK k w1 w2 v1 v2) : MvK k w w2 v v2 := by
  have hs := h.size
  refine ⟨h'.os.trans h.os, h'.tape.trans h.tape, h'.output.trans h.output, Nat.le_trans hs h'.size, fun j hj hk hn => ?_, ?_⟩
  · rw [h'.block j (by omega) hk ?_]
    · exact h.block j hj hk hn
    · rcases h.at_ with e | ⟨i, e, hi⟩
      · rw [e]; exact hn
      · rw [e]; intro e'; injection e' with e'; omega
  · rcases h'.at_ with e | ⟨j, e, hj⟩
    · rcases h.at_ with e1 | ⟨j, e1, hj⟩
      · exact Or.inl (e.trans e1)
      · exact Or.inr ⟨j, e.trans e1, hj⟩
    · exact Or.inr ⟨j, e, by omega⟩
theorem MvK.set {k : Nat} {w w1 : World} {v v1 : Value} (h : MvK k w w1 v v1) (j : Nat) (u : Value) : MvK k w (w1.setCell ⟨k, j, none⟩ u) v v1 :=
  ⟨h.os, h.tape, h.output, by simpa [World.setCell] using h.size, fun i hi hk hn => (Below.heap_setCell w1 ⟨k, j, none⟩ u i (by rintro rfl; exact hk rfl)).trans (h.block i hi hk hn), h.at_⟩
theorem MvK.setNew {k r : Nat} {w w1 : World} {v v1 : Value} (h : MvK k w w1 v v1) (hr : w.heap.size ≤ r) (j : Nat) (u : Value) : MvK k w (w1.setCell ⟨r, j, none⟩ u) v v1 :=
  ⟨h.os, h.tape, h.output, by simpa [World.setCell] using h.size, fun i hi hk hn => (Below.heap_setCell w1 ⟨r, j, none⟩ u i (by rintro rfl; omega)).trans (h.block i hi hk hn), h.at_⟩
theorem MvK.drew {k : Nat} {w w1 : World} {v v1 : Value} (h : MvK k w w1 v v1) : MvK k w w1.drew v v1 := ⟨h.os, h.tape, h.output, h.size, h.block, h.at_⟩
theorem MvK.below {k : Nat} {w w' : World} {v v' : Value} (h : MvK k w w' v v') (B : Nat) (hB : B ≤ k) (hk : k ≤ w.heap.size) (hr : ∀ j, v.ownBlock = some j → B ≤ j) : Below B w w' :=
  ⟨h.os, h.tape, h.output, h.size, fun j hj => h.block j (by omega) (by omega) (fun e => by have := hr j e.symm; omega)⟩
theorem TabB.mono {w : World} {B B' R o c : Nat} (h : TabB w B R o c) (hb : B ≤ B') : TabB w B' R o c := ⟨h.tab, by have := h.r; omega, by have := h.z; omega⟩
theorem bd_set {w : World} {k : Nat} {cs : Array Value} (j : Nat) (u : Value) (h : w.heap[k]? = some (Obj.cells cs 61 (0, 0))) : (w.setCell ⟨k, j, none⟩ u).heap[k]? = some (Obj.cells (cs.setIfInBounds j u) 61 (0, 0)) := heap_setCell_same w k j cs 61 u h
end Go.Proofs.YtlplikpjnocdfaaDoor
