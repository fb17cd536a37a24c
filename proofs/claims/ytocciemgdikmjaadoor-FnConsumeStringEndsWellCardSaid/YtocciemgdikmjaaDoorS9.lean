/-
  NewDeferLog.
-/
import Derived.Test.YtocciemgdikmjaaDoorS8
namespace Go.Proofs.YtocciemgdikmjaaDoor
open Go.ChangeShapes Go.WideShapes Go.ChangeAt Go.RowKit
set_option linter.unusedVariables false
/-- the log's function AddMsg, whose variables lie in the blocks K, X, E, M -/
abbrev fnL (K X E M : Nat) : Value := .func (Fn.func 92) #[] #[.pointer (some ⟨K, 0, none⟩), .pointer (some ⟨X, 0, none⟩), .pointer (some ⟨E, 0, none⟩), .pointer (some ⟨M, 0, none⟩)]
/-- a log as NewDeferLog makes it -/
def LogSaid (w : World) (v : Value) (w' : World) : Prop := ∃ (K X E M : Nat) (c1 c2 c3 : Array Value), v = .agg #[fnL K X E M, .func (Fn.func 95) #[] c1, .func (Fn.func 96) #[] c2, .func (Fn.func 97) #[] c3, .int .i8 3, .map none] ∧
  w'.cell? ⟨K, 0, none⟩ = some (.int .u8 1) ∧ w'.cell? ⟨X, 0, none⟩ = some (.int .i32 0) ∧ w'.frozen? ⟨X, 0, none⟩ = false ∧ w'.cell? ⟨M, 0, none⟩ = some (.slice none 0 0) ∧ w'.frozen? ⟨M, 0, none⟩ = false ∧ X ≠ M ∧ w.heap.size ≤ K ∧ w.heap.size ≤ X ∧ w.heap.size ≤ M ∧ Below w.heap.size w w'
theorem blocks5 (w : World) (a b c d e : Obj) : (((((w.alloc a).alloc b).alloc c).alloc d).alloc e).heap[w.heap.size]? = some a ∧ (((((w.alloc a).alloc b).alloc c).alloc d).alloc e).heap[w.heap.size + 1]? = some b ∧ (((((w.alloc a).alloc b).alloc c).alloc d).alloc e).heap[w.heap.size + 1 + 1]? = some c ∧ (((((w.alloc a).alloc b).alloc c).alloc d).alloc e).heap[w.heap.size + 1 + 1 + 1]? = some d ∧ Below w.heap.size w (((((w.alloc a).alloc b).alloc c).alloc d).alloc e) := by
  have s1 := alloc_size w a
  have s2 := alloc_size (w.alloc a) b
  have s3 := alloc_size ((w.alloc a).alloc b) c
  have s4 := alloc_size (((w.alloc a).alloc b).alloc c) d
  refine ⟨?_, ?_, ?_, ?_, (((((Below.refl _ _).alloc (Nat.le_refl _) _).alloc (by omega) _).alloc (by omega) _).alloc (by omega) _).alloc (by omega) _⟩
  · rw [alloc_old _ _ _ (by omega), alloc_old _ _ _ (by omega), alloc_old _ _ _ (by omega), alloc_old _ _ _ (by omega)]; exact heap_alloc_new w a
  · rw [alloc_old _ _ _ (by omega), alloc_old _ _ _ (by omega), alloc_old _ _ _ (by omega), ← s1]; exact heap_alloc_new _ b
  · rw [alloc_old _ _ _ (by omega), alloc_old _ _ _ (by omega), show w.heap.size + 1 + 1 = ((w.alloc a).alloc b).heap.size by omega]; exact heap_alloc_new _ c
  · rw [alloc_old _ _ _ (by omega), show w.heap.size + 1 + 1 + 1 = (((w.alloc a).alloc b).alloc c).heap.size by omega]; exact heap_alloc_new _ d
theorem fz_of {w : World} {g : Nat} {cs : Array Value} {t : TypeId} (h : w.heap[g]? = some (.cells cs t)) (i : Nat) : w.frozen? ⟨g, i, none⟩ = false := by
  simp only [World.frozen?, h]; simp
set_option maxRecDepth 100000 in
set_option maxHeartbeats 4000000 in
theorem nd72 (w : World) : Calls Tryd.prog 72 #[.int .u8 1, .map none] w fun e w' => ∃ v, e = .returned v ∧ LogSaid w v w' := by
  have hmf : ∀ (fn : Fn) (first cap : Array Value) (w : World), (Instr.makeFunc fn first cap).run Tryd.prog w = .ok (.func fn first cap) w := fun _ _ _ _ => rfl
  go_enter Tryd.func72, Tryd.ntmps72
  go_wp2_with fail
  obtain ⟨h0, h1, h2, h3, hb⟩ := blocks5 w (.cells #[.int .u8 1] 107) (.cells #[fnL w.heap.size (w.heap.size + 1 + 1 + 1) (w.heap.size + 1 + 1 + 1 + 1) (w.heap.size + 1 + 1), .func (Fn.func 95) #[] #[.pointer (some ⟨w.heap.size + 1 + 1 + 1, 0, none⟩), .pointer (some ⟨w.heap.size + 1 + 1 + 1 + 1, 0, none⟩)], .func (Fn.func 96) #[] #[.pointer (some ⟨w.heap.size + 1 + 1 + 1, 0, none⟩), .pointer (some ⟨w.heap.size + 1 + 1, 0, none⟩)], .func (Fn.func 97) #[] #[.pointer (some ⟨w.heap.size + 1 + 1 + 1, 0, none⟩), .pointer (some ⟨w.heap.size + 1 + 1, 0, none⟩)], .int .i8 3, .map none] 59) (.cells #[.slice none 0 0] 128) (.cells #[.int .i32 0, .int .u32 0] 134) (.cells #[.bool false] 4)
  refine bodyPost_ret (results_cell_row rfl _ _ (w.heap.size + 1) 59 _ (0, 0) _ rfl h1 Tryd.underlying59 rfl (by kernel_rfl)) rfl ⟨_, rfl, ?_⟩
  refine ⟨w.heap.size, w.heap.size + 1 + 1 + 1, w.heap.size + 1 + 1 + 1 + 1, w.heap.size + 1 + 1, _, _, _, rfl, cell_of h0 0, cell_of h3 0, fz_of h3 0, cell_of h2 0, fz_of h2 0, by omega, by omega, by omega, by omega, hb⟩
end Go.Proofs.YtocciemgdikmjaaDoor
