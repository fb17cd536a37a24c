/-
  An array of integers that is handed over by value, opened to the list of its numbers and shut again. No condition.
-/
import Derived.Test.YtnhefnccjlbeiaaRows
import Derived.WalkKit
import Derived.ProofKit
import Derived.OpenShut
namespace Go.Proofs.Ytnhefnccjlbeiaa
open Go.ChangeShapes Go.WideShapes Go.ChangeAt Go.RowKit

abbrev arrV (k : IntKind) (zs : List Int) : Array Value := (zs.map (Value.int k)).toArray
def IsArr (k : IntKind) (n : Nat) (zs : List Int) : Prop := zs.length = n ∧ ∀ z ∈ zs, (Lit.int k z).wf = true
def numOf : Value → Int
  | .int _ z => z
  | _ => 0

theorem mapM_all {α β : Type} {f : α → Option β} {g : α → β} : ∀ l : List α, (∀ x ∈ l, f x = some (g x)) → l.mapM f = some (l.map g)
  | [], _ => rfl
  | a :: l, h => by
    rw [List.mapM_cons, h a (by simp), mapM_all l fun x hx => h x (by simp [hx])]
    rfl

section
variable {H : Type} {enc : TypeId × Value → H} {P : Program} {w : World} {base : Nat} {spare : Nat → Bool} {held : Bool}
theorem open_arr {r : Reach} {b0 : Nat} {t e : TypeId} {n : Nat} {k : IntKind} {v : Value} {d : DataW H} {p : List MemPlace} (ht : P.underlying t = some (.array n e)) (he : P.underlying e = some (.int k)) (hce : P.cellsOf e = 1) (hct : P.cellsOf t = n)
    (hv : Value.okWide P w r b0 t v) (h : DataW.Trod enc P w base spare held t v d p) :
    ∃ zs : List Int, v = .agg (arrV k zs) ∧ d = .agg (zs.map fun z => .lit (.int k z)) ∧ p = [] ∧ IsArr k n zs := by
  obtain ⟨cs, rfl, hsz, _⟩ : ∃ cs, v = .agg cs ∧ cs.size = P.cellsOf t ∧ Row.okWide P w r b0 t cs := by simpa [Value.okWide, ht] using hv
  obtain ⟨fuel, hf⟩ := h
  obtain ⟨xs, m, _, hx, hcl, hxl, hel⟩ := DataW.trod_array ht hf
  rw [hct] at hsz
  have hcell : ∀ i (hi : i < n) (h1 : i < cs.size) (h2 : i < xs.length), ∃ z, cs[i] = .int k z ∧ xs[i] = (.lit (.int k z), []) ∧ (Lit.int k z).wf = true := by
    intro i hi h1 h2
    have h3 := hel i hi
    rw [hce, Nat.mul_one, List.getElem?_eq_getElem h2] at h3
    have h4 : ((Value.agg cs).cells.toList.drop i).take 1 = [cs[i]] := by
      simp only [Value.cells]
      rw [List.drop_eq_getElem_cons (by simpa using h1)]
      simp
    rw [h4] at h3
    obtain ⟨z, e1, e2, e3⟩ := DataW.trod_int he h3
    exact ⟨z, by simpa using e1, e2, e3⟩
  refine ⟨cs.toList.map numOf, ?_, ?_, ?_, by simp [hsz], ?_⟩
  · congr 1
    apply Array.ext
    · simp
    · intro i h1 h2
      obtain ⟨z, e1, _, _⟩ := hcell i (by omega) h1 (by omega)
      simp [e1, numOf]
  · simp only [Prod.mk.injEq] at hx
    rw [hx.1]
    congr 1
    apply List.ext_getElem
    · simp [hsz, hxl]
    · intro i h1 h2
      have h1' : i < xs.length := by simpa using h1
      obtain ⟨z, e1, e2, _⟩ := hcell i (by omega) (by omega) h1'
      simp [e1, e2, numOf]
  · simp only [Prod.mk.injEq] at hx
    rw [hx.2]
    rw [List.flatMap_eq_nil_iff]
    intro x hx'
    obtain ⟨i, hi, rfl⟩ := List.getElem_of_mem hx'
    obtain ⟨z, _, e2, _⟩ := hcell i (by omega) (by omega) hi
    simp [e2]
  · intro z hz
    obtain ⟨v, hv, rfl⟩ := List.mem_map.1 hz
    obtain ⟨i, hi, rfl⟩ := List.getElem_of_mem hv
    have hi' : i < cs.size := by simpa using hi
    obtain ⟨z, e1, _, e3⟩ := hcell i (by omega) hi' (by omega)
    simpa [e1, numOf] using e3
theorem shut_arr {t e : TypeId} {n : Nat} {k : IntKind} {zs : List Int} (ht : P.underlying t = some (.array n e)) (he : P.underlying e = some (.int k)) (hce : P.cellsOf e = 1) (hct : P.cellsOf t = n) (hz : IsArr k n zs) :
    DataW.Trod enc P w base spare held t (.agg (arrV k zs)) (.agg (zs.map fun z => .lit (.int k z))) [] := by
  obtain ⟨hl, hw⟩ := hz
  have hm := mapM_all (f := fun i => DataW.trod enc P w base spare held 1 e (((Value.agg (arrV k zs)).cells.toList.drop (i * P.cellsOf e)).take (P.cellsOf e)))
    (g := fun i => (DataW.lit (.int k (zs.getD i 0)), ([] : List MemPlace))) (List.range n) (by
      intro i hi
      have hi' : i < zs.length := by rw [hl]; simpa using hi
      have h4 : ((Value.agg (arrV k zs)).cells.toList.drop (i * P.cellsOf e)).take (P.cellsOf e) = [Value.int k (zs.getD i 0)] := by
        rw [hce, Nat.mul_one]
        simp only [Value.cells]
        rw [List.drop_eq_getElem_cons (by simpa using hi')]
        simp [hi']
      rw [h4]
      have hwf := hw (zs.getD i 0) (by simp [hi'])
      generalize zs.getD i 0 = z at *
      simp [DataW.trod, he, hwf])
  refine ⟨2, ?_⟩
  unfold DataW.trod
  rw [ht]
  simp only [hm, hct]
  rw [if_pos (by simp [Value.cells, hl])]
  simp only [Option.map_some, Option.some.injEq, Prod.mk.injEq]
  refine ⟨?_, ?_⟩
  · congr 1
    apply List.ext_getElem
    · simp [hl]
    · intro i h1 h2
      simp
      have : i < zs.length := by simpa using h2
      simp [this]
  · rw [List.flatMap_eq_nil_iff]
    intro x hx
    obtain ⟨i, _, rfl⟩ := List.mem_map.1 hx
    rfl
end
end Go.Proofs.Ytnhefnccjlbeiaa
