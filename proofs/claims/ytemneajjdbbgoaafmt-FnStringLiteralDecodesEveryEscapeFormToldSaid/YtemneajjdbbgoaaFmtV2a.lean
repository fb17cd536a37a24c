/-
  Appending to a row of bytes; two rows of bytes side by side.
-/
import Derived.Test.YtemneajjdbbgoaaFmtV1
import Derived.Maps.AppendAt
namespace Go.Proofs.YtemneajjdbbgoaaFmt
open Go.ChangeShapes Go.WideShapes Go.ChangeAt Go.RowKit
set_option linter.unusedVariables false
theorem own_appN {w : World} {B : Nat} {v : Value} {xs ys : List Int} (h : w.ownsRow B 5 1 v (xs.length + ys.length) (cellsB xs ++ cellsB ys)) : OwnB w B v (xs ++ ys) := by
  unfold OwnB
  rw [List.length_append, cellsB_app]; exact h
theorem wp_appB {ops rest : List Oper} {opa : Array Oper} {o : Oper} {a : Act} {Q : Exit → Act → World → Prop} {w : World} (hgd : o.guard = none) (s x : Operand)
    (ho : o.op = .call { callee := .builtin .append, args := #[s, x], argTypes := #[23, 23] }) (B : Nat) (v : Value) (xs ys : List Int) (hs : a.eval s = v) (hO : OwnB w B v xs)
    (ad : Addr) (c : Nat) (hx : a.eval x = .slice (some ad) ys.length c) (hn : ∀ j, j < ys.length → w.cell? (ad.add j) = some (.int .u8 (ys.getD j 0))) (hB : B ≤ w.heap.size) (hl : xs.length + ys.length ≤ 4194304)
    (h : ∀ v' w', OwnB w' B v' (xs ++ ys) → Mv w w' v v' → wpList Tryf.prog opa Q rest (a.put o.dst v') w') : wpList Tryf.prog opa Q (o :: rest) a w := by
  obtain ⟨i0, hin, hz0, hz1, hz2⟩ := info_parts infoB
  refine wpList_append_own_at w hgd s x 23 ho B 5 i0 (.int .u8 0) 1 1 Tryf.underlying23 hin hz0 hz1 hz2 rfl (by decide) v xs.length (cellsB xs) hs hO ad ys.length c (cellsB ys) hx (by simp [cellsB]) ?_ (cellsB_one ys) (by unfold maxLen; omega) (by omega) hB ?_
  · intro j u hj
    obtain ⟨h1, rfl⟩ := cellsB_get ys j u hj
    exact hn j h1
  · intro v' w' h1 h2 _ h4
    refine h v' w' (own_appN h1) ⟨h2, ?_⟩
    rcases h4 with e | e
    · exact Or.inl e
    · exact Or.inr ⟨_, e, Nat.le_refl _⟩
theorem cell_new (w : World) (ys : List Int) (cs : Array Value) (t : TypeId) (hcs : cs = (cellsB ys).toArray) (j : Nat) (hj : j < ys.length) : (w.alloc (.cells cs t)).cell? ((⟨w.heap.size, 0, none⟩ : Addr).add j) = some (.int .u8 (ys.getD j 0)) := by
  subst hcs
  have hb := heap_alloc_new w (.cells (cellsB ys).toArray t)
  rw [Addr.add_lit]
  simp only [World.cell?, hb, Nat.zero_add]
  simp [cellsB, List.getD, hj]
/-- the append of a row that has just been laid -/
theorem wp_appL {rest : List Oper} {opa : Array Oper} {o : Oper} {a : Act} {Q : Exit → Act → World → Prop} {w : World} {cs : Array Value} {t : TypeId} (hgd : o.guard = none) (s x : Operand)
    (ho : o.op = .call { callee := .builtin .append, args := #[s, x], argTypes := #[23, 23] }) (B : Nat) (v : Value) (xs ys : List Int) (hs : a.eval s = v) (hO : OwnB w B v xs)
    (hcs : cs = (cellsB ys).toArray) (c : Nat) (hx : a.eval x = .slice (some ⟨w.heap.size, 0, none⟩) ys.length c) (hB : B ≤ w.heap.size) (hl : xs.length + ys.length ≤ 4194304)
    (h : ∀ v' w', OwnB w' B v' (xs ++ ys) → Mv w w' v v' → wpList Tryf.prog opa Q rest (a.put o.dst v') w') : wpList Tryf.prog opa Q (o :: rest) a (w.alloc (.cells cs t)) := by
  refine wp_appB (ops := []) hgd s x ho B v xs ys hs (World.ownsRow.alloc hO _) ⟨w.heap.size, 0, none⟩ c hx (fun j hj => cell_new w ys cs t hcs j hj) (by simp; omega) hl ?_
  intro v' w' h1 h2
  exact h v' w' h1 ((Mv.alloc w v _).trans h2)
/-- two rows of bytes, in blocks apart -/
structure Two (w : World) (B : Nat) (v : Value) (xs : List Int) (u : Value) (ys : List Int) : Prop where
  a : OwnB w B v xs
  b : OwnB w B u ys
  ne : ∀ k, v.ownBlock = some k → u.ownBlock ≠ some k
theorem OwnB.mv {w w' : World} {B : Nat} {v v' u : Value} {ys : List Int} (h : OwnB w B u ys) (m : Mv w w' v v') (hne : ∀ k, v.ownBlock = some k → u.ownBlock ≠ some k) : OwnB w' B u ys := by
  have ho := h.old
  rcases h with ⟨hl, h0 | ⟨g, cap, cur, rfl, hB, hg, hr⟩⟩
  · exact ⟨hl, Or.inl h0⟩
  · refine ⟨hl, Or.inr ⟨g, cap, cur, rfl, hB, ?_, hr⟩⟩
    rw [m.g.block g (Array.getElem?_eq_some_iff.1 hg).1 (fun e => hne g e.symm rfl)]
    exact hg
theorem Two.aMv {w w' : World} {B : Nat} {v v' u : Value} {xs xs' ys : List Int} (h : Two w B v xs u ys) (o : OwnB w' B v' xs') (m : Mv w w' v v') : Two w' B v' xs' u ys := by
  refine ⟨o, h.b.mv m h.ne, fun k hk e => ?_⟩
  rcases m.at_ with e1 | ⟨j, e1, hj⟩
  · exact h.ne k (e1 ▸ hk) e
  · rw [hk] at e1; injection e1 with e1
    have := h.b.old k e
    omega
theorem Two.swap {w : World} {B : Nat} {v u : Value} {xs ys : List Int} (h : Two w B v xs u ys) : Two w B u ys v xs := ⟨h.b, h.a, fun k hk e => h.ne k e hk⟩
theorem Two.bMv {w w' : World} {B : Nat} {v u u' : Value} {xs ys ys' : List Int} (h : Two w B v xs u ys) (o : OwnB w' B u' ys') (m : Mv w w' u u') : Two w' B v xs u' ys' := (h.swap.aMv o m).swap
theorem Two.keep {w w' : World} {B : Nat} {v u : Value} {xs ys : List Int} (h : Two w B v xs u ys) (hb : Below w.heap.size w w') : Two w' B v xs u ys := ⟨h.a.keep hb, h.b.keep hb, h.ne⟩
theorem Two.aBelow {w w' : World} {B : Nat} {v v' u : Value} {xs ys : List Int} (h : Two w B v xs u ys) (m : Mv w w' v v') (hB : B ≤ w.heap.size) : Below B w w' := m.below B hB h.a.lt
theorem Two.bBelow {w w' : World} {B : Nat} {v u u' : Value} {xs ys : List Int} (h : Two w B v xs u ys) (m : Mv w w' u u') (hB : B ≤ w.heap.size) : Below B w w' := m.below B hB h.b.lt
end Go.Proofs.YtemneajjdbbgoaaFmt
