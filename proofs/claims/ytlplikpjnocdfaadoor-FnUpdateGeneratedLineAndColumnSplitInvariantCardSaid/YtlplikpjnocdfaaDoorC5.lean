/-
  The scan's state in the builder's block; what holds all along.
-/
import Derived.Test.YtlplikpjnocdfaaDoorC4
import Derived.Test.YtlplikpjnocdfaaDoorB6
import Derived.Test.YtlplikpjnocdfaaDoorC2
import Derived.Lib.OthersKept
namespace Go.Proofs.YtlplikpjnocdfaaDoor
open Go.ChangeShapes Go.WideShapes Go.ChangeAt Go.RowKit
set_option linter.unusedVariables false
def BdS (w : World) (K : Nat) (m v : Value) (S : US) (lu fn : Int) : Prop := Bd w K m v S.gl S.gcol S.si S.ol S.oc S.on S.hn lu S.gen fn S.hp S.ls
theorem last_is (xs : List Int) : (xs = [] ∧ lastB xs = 0) ∨ ∃ ys, xs = ys ++ [lastB xs] := by
  by_cases h : xs = []
  · left; subst h; exact ⟨rfl, rfl⟩
  · right
    refine ⟨xs.dropLast, ?_⟩
    have e : lastB xs = xs.getLast h := by
      unfold lastB
      rw [List.getLastD_eq_getLast?, List.getLast?_eq_some_getLast h]
      rfl
    rw [e, List.dropLast_concat_getLast h]
theorem lastB_app (xs : List Int) (x : Int) : lastB (xs ++ [x]) = x := by unfold lastB; simp
/-- what holds of the state at place i -/
structure Inv (S : US) (i : Nat) : Prop where
  gl : 0 ≤ S.gl ∧ S.gl ≤ i
  gc : 0 ≤ S.gcol ∧ S.gcol ≤ 7
  gen : 0 ≤ S.gen ∧ S.gen ≤ 2 * i
  len : S.buf.length ≤ 30 * (i + 1)
  lst : lastB S.buf ≠ 34
theorem seg4_len (a b c d : Int) : (seg4 a b c d).length ≤ 28 := by
  have h1 := enc_le (zig a); have h2 := enc_le (zig b); have h3 := enc_le (zig c); have h4 := enc_le (zig d)
  simp only [seg4, List.length_append]; omega
theorem cma_len (x : Int) : (cma x).length ≤ 1 := by unfold cma; split <;> simp
theorem Inv.agn {S : US} {i : Nat} (h : Inv S i) : (again S).gl = S.gl ∧ (again S).buf.length ≤ S.buf.length + 29 ∧ (again S).gcol ≤ 7 ∧ 0 ≤ (again S).gcol ∧ (again S).gen = S.gen := by
  have h1 := seg4_len (0 - S.gcol) 0 0 0
  have h2 := cma_len (lastB S.buf)
  have h3 := h.gc
  unfold Go.Proofs.YtlplikpjnocdfaaDoor.again
  split
  · simp only [List.length_append]
    exact ⟨by trivial, by omega, by omega, by omega, by trivial⟩
  · exact ⟨rfl, by omega, h3.2, h3.1, rfl⟩
theorem Inv.nxt {S : US} {i : Nat} (h : Inv S i) (c : Nat) (x : Bool) (d : Nat) (hd : 1 ≤ d) : Inv (stp S c x) (i + d) := by
  obtain ⟨h1, h2, h3, h4, h5⟩ := id h
  unfold Go.Proofs.YtlplikpjnocdfaaDoor.stp
  split
  · exact ⟨by omega, h2, by omega, by omega, h5⟩
  split
  · obtain ⟨a1, a2, a3, a4, a5⟩ := h.agn
    unfold brk
    refine ⟨?_, ?_, ?_, ?_, ?_⟩
    · show 0 ≤ (again S).gl + 1 ∧ (again S).gl + 1 ≤ _
      rw [a1]; omega
    · exact ⟨(show (0:Int) ≤ 0 by decide), (show (0:Int) ≤ 7 by decide)⟩
    · show (0 : Int) ≤ 0 ∧ (0 : Int) ≤ _
      omega
    · show ((again S).buf ++ [59]).length ≤ _
      simp only [List.length_append, List.length_singleton]; omega
    · show lastB ((again S).buf ++ [59]) ≠ 34
      rw [lastB_app]; decide
  · refine ⟨?_, h2, ?_, ?_, h5⟩
    · show 0 ≤ S.gl ∧ S.gl ≤ _
      omega
    · show 0 ≤ S.gen + (if c ≤ 65535 then 1 else 2) ∧ S.gen + (if c ≤ 65535 then 1 else 2) ≤ _
      split <;> omega
    · show S.buf.length ≤ _
      omega
/-- moving an iterator on -/
theorem own_iter {w : World} {B : Nat} {v : Value} {xs : List Int} (h : OwnB w B v xs) {k : Nat} {s : ByteArray} {pos : Nat} (hk : w.heap[k]? = some (.stringIter s pos)) (pos' : Nat) : OwnB (w.iterAt k s pos') B v xs := by
  rcases h with ⟨hl, h0 | ⟨g, cap, cur, rfl, hB, hg, hr⟩⟩
  · exact ⟨hl, Or.inl h0⟩
  · refine ⟨hl, Or.inr ⟨g, cap, cur, rfl, hB, ?_, hr⟩⟩
    rw [Lib.iterAt_other w k g s pos' (by rintro rfl; rw [hg] at hk; cases hk)]
    exact hg
theorem bd_iter {w : World} {K : Nat} {m v : Value} {g c s l o n : Int} {h : Bool} {lu gc fn : Int} {hp ls : Bool} (b : Bd w K m v g c s l o n h lu gc fn hp ls) {k : Nat} {t : ByteArray} {pos : Nat} (hk : w.heap[k]? = some (.stringIter t pos)) (pos' : Nat) : Bd (w.iterAt k t pos') K m v g c s l o n h lu gc fn hp ls := by
  have b' : w.heap[K]? = some (Obj.cells (bdV m v g c s l o n h lu gc fn hp ls) 61 (0, 0)) := b
  refine (Lib.iterAt_other w k K t pos' ?_).trans b'
  rintro rfl
  rw [b'] at hk; cases hk
theorem MvK.iter {K : Nat} {w w1 : World} {v v1 : Value} (h : MvK K w w1 v v1) {k : Nat} (hk : w.heap.size ≤ k) (s : ByteArray) (pos : Nat) : MvK K w (w1.iterAt k s pos) v v1 :=
  ⟨h.os, h.tape, h.output, by rw [Lib.iterAt_size]; exact h.size, fun j hj hK hn => (Lib.iterAt_other w1 k j s pos (by omega)).trans (h.block j hj hK hn), h.at_⟩
/-- an iterator's block stays where the builder's block and the row of bytes turn -/
theorem iter_keep {K : Nat} {w w' : World} {v v' : Value} {B : Nat} {xs : List Int} (h : MvK K w w' v v') (hO : OwnB w B v xs) {m u : Value} {g c s l o n : Int} {hh : Bool} {lu gc fn : Int} {hp ls : Bool} (b : Bd w K m u g c s l o n hh lu gc fn hp ls) {k : Nat} {t : ByteArray} {pos : Nat} (hk : w.heap[k]? = some (.stringIter t pos)) : w'.heap[k]? = some (.stringIter t pos) := by
  have b' : w.heap[K]? = some (Obj.cells (bdV m u g c s l o n hh lu gc fn hp ls) 61 (0, 0)) := b
  rw [h.block k (Array.getElem?_eq_some_iff.1 hk).1 ?_ ?_]
  · exact hk
  · rintro rfl; rw [b'] at hk; cases hk
  · rcases hO with ⟨_, ⟨rfl, _⟩ | ⟨g', cap, cur, rfl, _, hgc, _⟩⟩
    · intro e; cases e
    · intro e
      have : k = g' := by simpa [Value.ownBlock] using e
      subst this
      rw [hgc] at hk; cases hk
/-- in the loop: the iterator in block q stands at pos -/
structure UR (w wx : World) (K q : Nat) (o : List Int) (L pos : Nat) (S0 S : US) (m v0 v : Value) (fn : Int) : Prop where
  it : wx.heap[q]? = some (.stringIter (strOfNums (o.drop L)) pos)
  bd : BdS wx K m v S L fn
  own : OwnB wx (K + 1) v S.buf
  inv : Inv S (L + pos)
  sc : scan o (L + pos) S = scan o L S0
  le : L + pos ≤ o.length
  mv : MvK K w wx v0 v
end Go.Proofs.YtlplikpjnocdfaaDoor
