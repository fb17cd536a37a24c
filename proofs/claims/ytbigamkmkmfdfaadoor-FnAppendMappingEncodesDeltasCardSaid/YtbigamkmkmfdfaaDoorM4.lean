/-
  appendMappingToBuffer: what it writes; and the small functions around it.
-/
import Derived.Test.YtbigamkmkmfdfaaDoorM3
namespace Go.Proofs.YtbigamkmkmfdfaaDoor
open Go.ChangeShapes Go.WideShapes Go.ChangeAt Go.RowKit
set_option linter.unusedVariables false
abbrev stV (g c s l o n : Int) (h : Bool) : Array Value := #[.int .i64 g, .int .i64 c, .int .i64 s, .int .i64 l, .int .i64 o, .int .i64 n, .bool h]
/-- the bits of a 32-bit number, turned -/
def flp (n : Int) : Int := bits .xor .u32 IntKind.u32.max n
theorem ret_agg {a b : Array Value} (h : a = b) : Ending.returned (.agg a) = .returned (.agg b) := by rw [h]
set_option maxRecDepth 100000 in
theorem mk40 (n : Int) (w : World) : Calls Tryd.prog 40 #[.int .u32 n] w fun e w' => e = .returned (.agg #[.int .u32 (flp n)]) ∧ Below w.heap.size w w' ∧ Keep5 w w' := by
  go_enter Tryd.func40, Tryd.ntmps40
  go_wp2_with fail
  (try simp only [Exit.inBlock, Exit.then])
  refine bodyPost_ret (results_cell_row rfl _ _ w.heap.size 45 #[.int .u32 (flp n)] (0, 0) _ rfl ?_ Tryd.underlying45 rfl (by kernel_rfl)) rfl ⟨rfl, (Below.refl _ _).alloc (Nat.le_refl _) _, ?_⟩
  · exact heap_alloc_new _ _
  · intro b c t fr ht hb
    rw [heap_alloc_old w _ (Array.getElem?_eq_some_iff.1 hb).1]; exact hb
set_option maxRecDepth 100000 in
theorem iv21 (n : Int) (w : World) : Calls Tryd.prog 21 #[.agg #[.int .u32 n]] w fun e w' => e = .returned (.bool (n != 0)) ∧ Below w.heap.size w w' := by
  go_enter Tryd.func21, Tryd.ntmps21
  go_wp2_with fail
  go_ret
  exact ⟨rfl, (Below.refl _ _).alloc (Nat.le_refl _) _⟩
theorem u32s : (IntKind.u32.signed = true) = False := by simp [IntKind.signed]
set_option maxRecDepth 100000 in
theorem gi22 (n : Int) (w : World) : Calls Tryd.prog 22 #[.agg #[.int .u32 n]] w fun e w' => e = .returned (.int .u32 (flp n)) ∧ Below w.heap.size w w' := by
  go_enter Tryd.func22, Tryd.ntmps22
  go_wp2_with fail
  all_goals first
    | (exfalso; have hh := ‹IntKind.u32.signed = true›; exact absurd hh (by decide))
    | (go_ret; exact ⟨rfl, (Below.refl _ _).alloc (Nat.le_refl _) _⟩)
set_option maxRecDepth 100000 in
theorem sm18 (g c s l o n : Int) (h : Bool) (w : World) : Calls Tryd.prog 18 #[.agg (stV g c s l o n h)] w fun e w' => e = .returned (.agg (stV g c s l o n h)) ∧ Below w.heap.size w w' := by
  go_enter Tryd.func18, Tryd.ntmps18
  go_wp2_with fail
  (try simp only [Exit.inBlock, Exit.then])
  refine bodyPost_ret (results_cell_row rfl _ _ (w.heap.size + 1) 41 (stV g c s l o n h) (0, 0) _ rfl ?_ Tryd.underlying41 rfl (by kernel_rfl)) rfl ⟨rfl, ((Below.refl _ _).alloc (Nat.le_refl _) _).alloc (by simp) _⟩
  have := heap_alloc_new (w.alloc (Obj.cells (stV g c s l o n h) 39)) (Obj.cells (stV g c s l o n h) 41)
  simpa using this
end Go.Proofs.YtbigamkmkmfdfaaDoor
