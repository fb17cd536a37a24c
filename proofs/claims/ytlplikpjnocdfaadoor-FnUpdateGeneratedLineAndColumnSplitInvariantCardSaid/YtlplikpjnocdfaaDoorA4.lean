/-
  Small functions around Index32; a state in memory.
-/
import Derived.Test.YtlplikpjnocdfaaDoorA3
namespace Go.Proofs.YtlplikpjnocdfaaDoor
open Go.ChangeShapes Go.WideShapes Go.ChangeAt Go.RowKit
set_option linter.unusedVariables false

abbrev stV (g c s l o n : Int) (h : Bool) : Array Value := #[.int .i64 g, .int .i64 c, .int .i64 s, .int .i64 l, .int .i64 o, .int .i64 n, .bool h]
/-- the bits of a 32-bit number, turned -/
def flp (n : Int) : Int := bits .xor .u32 IntKind.u32.max n
set_option maxRecDepth 100000 in
theorem mk37 (n : Int) (w : World) : Calls Tryd.prog 37 #[.int .u32 n] w fun e w' => e = .returned (.agg #[.int .u32 (flp n)]) ∧ Below w.heap.size w w' := by
  go_enter Tryd.func37, Tryd.ntmps37
  go_wp2_with fail
  (try simp only [Exit.inBlock, Exit.then])
  refine bodyPost_ret (results_cell_row rfl _ _ w.heap.size 59 #[.int .u32 (flp n)] (0, 0) _ rfl ?_ Tryd.underlying59 rfl (by kernel_rfl)) rfl ⟨rfl, (Below.refl _ _).alloc (Nat.le_refl _) _⟩
  exact heap_alloc_new _ _
set_option maxRecDepth 100000 in
theorem iv30 (n : Int) (w : World) : Calls Tryd.prog 30 #[.agg #[.int .u32 n]] w fun e w' => e = .returned (.bool (n != 0)) ∧ Below w.heap.size w w' := by
  go_enter Tryd.func30, Tryd.ntmps30
  go_wp2_with fail
  go_ret
  exact ⟨rfl, (Below.refl _ _).alloc (Nat.le_refl _) _⟩
set_option maxRecDepth 100000 in
theorem gi31 (n : Int) (w : World) : Calls Tryd.prog 31 #[.agg #[.int .u32 n]] w fun e w' => e = .returned (.int .u32 (flp n)) ∧ Below w.heap.size w w' := by
  go_enter Tryd.func31, Tryd.ntmps31
  go_wp2_with fail
  all_goals first
    | (exfalso; have hh := ‹IntKind.u32.signed = true›; exact absurd hh (by decide))
    | (go_ret; exact ⟨rfl, (Below.refl _ _).alloc (Nat.le_refl _) _⟩)
section
variable {w : World} {b : Nat} {g c s l o n : Int} {h : Bool}
theorem fld1 (hb : w.heap[b]? = some (Obj.cells (stV g c s l o n h) 32 (0, 0))) : w.cell? ⟨b, 1, none⟩ = some (.int .i64 c) := by simp only [World.cell?, hb]; rfl
theorem fld2 (hb : w.heap[b]? = some (Obj.cells (stV g c s l o n h) 32 (0, 0))) : w.cell? ⟨b, 2, none⟩ = some (.int .i64 s) := by simp only [World.cell?, hb]; rfl
theorem fld3 (hb : w.heap[b]? = some (Obj.cells (stV g c s l o n h) 32 (0, 0))) : w.cell? ⟨b, 3, none⟩ = some (.int .i64 l) := by simp only [World.cell?, hb]; rfl
theorem fld4 (hb : w.heap[b]? = some (Obj.cells (stV g c s l o n h) 32 (0, 0))) : w.cell? ⟨b, 4, none⟩ = some (.int .i64 o) := by simp only [World.cell?, hb]; rfl
theorem fld5 (hb : w.heap[b]? = some (Obj.cells (stV g c s l o n h) 32 (0, 0))) : w.cell? ⟨b, 5, none⟩ = some (.int .i64 n) := by simp only [World.cell?, hb]; rfl
theorem fld6 (hb : w.heap[b]? = some (Obj.cells (stV g c s l o n h) 32 (0, 0))) : w.cell? ⟨b, 6, none⟩ = some (.bool h) := by simp only [World.cell?, hb]; rfl
end
theorem ixc {w : World} {b : Nat} {i : Int} (hb : w.heap[b]? = some (Obj.cells #[.int .u32 i] 59 (0, 0))) : w.cell? ⟨b, 0, none⟩ = some (.int .u32 i) ∧ w.frozen? ⟨b, 0, none⟩ = false := by
  constructor
  · simp only [World.cell?, hb]; rfl
  · simp [World.frozen?, hb]
theorem results_tmp_cell {fn : Func} {p u : Tmp} {ty : TypeId} (h : fn.results = #[.tmp u, .cell p ty]) (tmps : Array Value) (P : Program) (w : World) :
    (results fn tmps).run P w =
      ((asAddr (tmps.getD p undef)).run P w).andThen fun a w₁ => ((loadVar ty a).run P w₁).andThen fun v w₂ => .ok (.tuple #[tmps.getD u undef, v]) w₂ := by
  simp only [results, h]
  simp [Sem.run_bind, Result.andThen]
theorem own_set {w : World} {B : Nat} {v : Value} {xs : List Int} {b : Nat} {c : Array Value} {t : TypeId} {fr : Nat × Nat} (hO : OwnB w B v xs) (hb : w.heap[b]? = some (Obj.cells c t fr)) (ht : t ≠ 5) (j : Nat) (u : Value) : OwnB (w.setCell ⟨b, j, none⟩ u) B v xs := by
  rcases hO with ⟨hl, h0 | ⟨g, cap, cur, rfl, hB, hg, hr⟩⟩
  · exact ⟨hl, Or.inl h0⟩
  · refine ⟨hl, Or.inr ⟨g, cap, cur, rfl, hB, ?_, hr⟩⟩
    rw [Below.heap_setCell w ⟨b, j, none⟩ u g (by
      rintro rfl
      rw [hb] at hg
      injection hg with hg
      injection hg with _ h2
      exact ht h2)]
    exact hg
theorem Mv.set_new {w cur : World} {v v' : Value} {r : Nat} (h : Mv w cur v v') (hr : w.heap.size ≤ r) (j : Nat) (u : Value) : Mv w (cur.setCell ⟨r, j, none⟩ u) v v' :=
  ⟨⟨h.g.os, h.g.tape, h.g.output, by simpa [World.setCell] using h.g.size, fun k hk hn => (Below.heap_setCell cur ⟨r, j, none⟩ u k (by rintro rfl; omega)).trans (h.g.block k hk hn)⟩, h.at_⟩
theorem heap_set_other {w : World} {b k : Nat} (j : Nat) (u : Value) (h : k ≠ b) : (w.setCell ⟨b, j, none⟩ u).heap[k]? = w.heap[k]? := Below.heap_setCell w ⟨b, j, none⟩ u k (fun e => h e)
theorem ix_set {w : World} {b : Nat} {i : Int} (j : Int) (hb : w.heap[b]? = some (Obj.cells #[.int .u32 i] 59 (0, 0))) : (w.setCell ⟨b, 0, none⟩ (.int .u32 j)).heap[b]? = some (Obj.cells #[.int .u32 j] 59 (0, 0)) := by
  rw [heap_setCell_same w b 0 #[.int .u32 i] 59 (.int .u32 j) hb]; rfl
end Go.Proofs.YtlplikpjnocdfaaDoor
