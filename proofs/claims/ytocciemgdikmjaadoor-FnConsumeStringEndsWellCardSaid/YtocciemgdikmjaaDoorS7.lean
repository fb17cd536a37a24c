/-
  allowOverride over no map; the function that NewDeferLog hands on as AddMsg.
-/
import Derived.Test.YtocciemgdikmjaaDoorS6
import Derived.Test.YtocciemgdikmjaaDoorS2
import Derived.Defers
namespace Go.Proofs.YtocciemgdikmjaaDoor
open Go.ChangeShapes Go.WideShapes Go.ChangeAt Go.RowKit
open Go.MuLone
set_option linter.unusedVariables false
set_option maxRecDepth 100000 in
theorem ao99 (w : World) (id kind : Int) : Calls Tryd.prog 99 #[.map none, .int .u8 id, .int .u8 kind] w fun e w' => e = .returned (.tuple #[.int .u8 kind, .bool true]) ∧ w = w' := by
  have hl : ∀ w, (Instr.lookup 57 (.map none) (.int .u8 id) true).run Tryd.prog w = .ok (.tuple #[.int .i8 0, .bool false]) w := fun w => rfl
  go_enter Tryd.func99, Tryd.ntmps99
  go_wp2_with fail
  go_ret2
  exact ⟨rfl, rfl⟩
/-- of what was there only the blocks X and M may have turned -/
structure Two (w w' : World) (X M : Nat) : Prop where
  os : w'.os = w.os
  tape : w'.tape = w.tape
  output : w'.output = w.output
  size : w.heap.size ≤ w'.heap.size
  block : ∀ k, k < w.heap.size → k ≠ X → k ≠ M → w'.heap[k]? = w.heap[k]?
theorem infoMsg : (Tryd.prog.info? 136).map (fun i => (i.zero, i.size, i.bytes)) = some (some (.agg #[.slice none 0 0, .string ⟨#[]⟩, .nilIface, .pointer none, .string ⟨#[]⟩, .bool false, .int .u8 0, .int .u8 0]), 8, 96) := by kernel_rfl
theorem cells8 (w : World) (a b c d e f h i : Value) (t : TypeId) : ∀ j u, [a, b, c, d, e, f, h, i][j]? = some u → (w.alloc (.cells #[a, b, c, d, e, f, h, i] t)).cell? ((⟨w.heap.size, 0, none⟩ : Addr).add j) = some u := by
  intro j u hj
  rw [Addr.add_lit, Nat.zero_add, cell_of (heap_alloc_new w (.cells #[a, b, c, d, e, f, h, i] t)) j]
  simpa using hj
theorem row_slice {w : World} {B e size n : Nat} {v : Value} {xs : List Value} (h : w.ownsRow B e size v n xs) : ∃ a c, v = .slice a n c := by
  obtain ⟨_, ⟨rfl, rfl, _⟩ | ⟨k, cap, cur, rfl, _⟩⟩ := h
  · exact ⟨none, 0, rfl⟩
  · exact ⟨_, cap, rfl⟩
set_option maxRecDepth 100000 in
set_option maxHeartbeats 4000000 in
theorem am92 (w : World) (K X E M : Nat) (L : Nat) (t : ByteArray) (id : Int) (hK : w.cell? ⟨K, 0, none⟩ = some (.int .u8 1)) (hX : w.cell? ⟨X, 0, none⟩ = some (.int .i32 0)) (fX : w.frozen? ⟨X, 0, none⟩ = false) (hM : w.cell? ⟨M, 0, none⟩ = some (.slice none 0 0)) (fM : w.frozen? ⟨M, 0, none⟩ = false) (hXM : X ≠ M) :
    Calls Tryd.prog 92 #[.agg #[.slice none 0 0, .string ⟨#[]⟩, .nilIface, .pointer (some ⟨L, 0, none⟩), .string t, .bool false, .int .u8 1, .int .u8 id], .pointer (some ⟨K, 0, none⟩), .pointer (some ⟨X, 0, none⟩), .pointer (some ⟨E, 0, none⟩), .pointer (some ⟨M, 0, none⟩)] w fun e w' => e = .returned (.tuple #[]) ∧ Two w w' X M := by
  have lK := block_lt_of_cell hK; have lX := block_lt_of_cell hX; have lM := block_lt_of_cell hM
  go_enter_defers Tryd.func92, Tryd.ntmps92
  obtain ⟨W, hW⟩ : ∃ W, w.alloc (.cells #[.slice none 0 0, .string ⟨#[]⟩, .nilIface, .pointer (some ⟨L, 0, none⟩), .string t, .bool false, .int .u8 1, .int .u8 id] 136) = W := ⟨_, rfl⟩
  have hWX : W.cell? ⟨X, 0, none⟩ = some (.int .i32 0) := by rw [← hW, (below_alloc0 w _).cell lX]; exact hX
  have hWM : W.cell? ⟨M, 0, none⟩ = some (.slice none 0 0) := by rw [← hW, (below_alloc0 w _).cell lM]; exact hM
  have gX : W.frozen? ⟨X, 0, none⟩ = false := by rw [← hW, (below_alloc0 w _).frozen lX]; exact fX
  have gM : W.frozen? ⟨M, 0, none⟩ = false := by rw [← hW, (below_alloc0 w _).frozen lM]; exact fM
  have HW := Lib.hid hW
  have bW : Below w.heap.size w W := by rw [← hW]; exact below_alloc0 w _
  have hm : W.heap[w.heap.size]? = some (.cells #[.slice none 0 0, .string ⟨#[]⟩, .nilIface, .pointer (some ⟨L, 0, none⟩), .string t, .bool false, .int .u8 1, .int .u8 id] 136) := by rw [← hW]; exact heap_alloc_new w _
  clear hW
  go_wp2_with fail
  rw [HW.out]
  refine (lock_free muLib ⟨X, 0, none⟩ W hWX gX).mono ?_
  rintro e w' ⟨rfl, rfl⟩
  obtain ⟨V, hV⟩ : ∃ V, W.setCell ⟨X, 0, none⟩ (.int .i32 1) = V := ⟨_, rfl⟩
  have vX : V.cell? ⟨X, 0, none⟩ = some (.int .i32 1) := by rw [← hV]; exact World.cell?_setCell_same _ _ _ hWX
  have vM : V.cell? ⟨M, 0, none⟩ = some (.slice none 0 0) := by rw [← hV, World.cell?_setCell_other _ _ _ _ (by intro e; injection e; omega)]; exact hWM
  have v6' : V.cell? ⟨w.heap.size, 6, none⟩ = some (.int .u8 1) := by rw [← hV, World.cell?_setCell_other _ _ _ _ (by intro e; injection e; omega)]; exact cell_of hm 6
  have hmV : V.heap[w.heap.size]? = some (.cells #[.slice none 0 0, .string ⟨#[]⟩, .nilIface, .pointer (some ⟨L, 0, none⟩), .string t, .bool false, .int .u8 1, .int .u8 id] 136) := by rw [← hV, Below.heap_setCell _ _ _ _ (by show w.heap.size ≠ X; omega)]; exact hm
  have v0 := cell_of hmV 0
  have v1 := cell_of hmV 1
  have v2 := cell_of hmV 2
  have v3 := cell_of hmV 3
  have v4 := cell_of hmV 4
  have v5 := cell_of hmV 5
  have v6 := cell_of hmV 6
  have v7 := cell_of hmV 7
  have HV := Lib.hid hV
  have fM2 : V.frozen? ⟨M, 0, none⟩ = false := by rw [← hV]; simpa using gM
  have fX2 : V.frozen? ⟨X, 0, none⟩ = false := by rw [← hV]; simpa using gX
  have hVs : w.heap.size < V.heap.size := (Array.getElem?_eq_some_iff.1 hmV).1
  rw [hV]
  clear hV hWX hWM gX gM hm
  obtain ⟨i0, hin, hz0, hz1, hz2⟩ := info_parts infoMsg
  have HVS := Lib.hid hVs
  have lMV : M < V.heap.size := by omega
  have lXV : X < V.heap.size := by omega
  clear v6' hmV hVs lK lX lM
  dsimp only
  go_wp2_with (at_builtin; refine wpList_append_own _ rfl _ _ 128 rfl w.heap.size 136 i0 (.agg #[.slice none 0 0, .string ⟨#[]⟩, .nilIface, .pointer none, .string ⟨#[]⟩, .bool false, .int .u8 0, .int .u8 0]) 8 96 Tryd.underlying128 hin hz0 hz1 hz2 rfl (by decide) (.slice none 0 0) 0 [] rfl (World.ownsRow_nil _ w.heap.size 136 8) ⟨V.heap.size, 0, none⟩ 1 1 [.slice none 0 0, .string ⟨#[]⟩, .nilIface, .pointer (some ⟨L, 0, none⟩), .string t, .bool false, .int .u8 1, .int .u8 id] rfl rfl (cells8 _ _ _ _ _ _ _ _ _ _) (by intro u hu; simp at hu; rcases hu with rfl | rfl | rfl | rfl | rfl | rfl | rfl | rfl <;> rfl) (by unfold maxLen; omega) (by omega) (by have := HVS.out; simp; omega) ?_; intro r1 w4 hown1 hg1 hnil1; obtain ⟨ra, rc, rfl⟩ := row_slice hown1; have HB4 := Lib.hid (show Below V.heap.size V w4 from (below_alloc0 V _).trans (below_grownR hg1 V.heap.size (by simp) (by intro k hk; cases hk))); have m4 : w4.cell? ⟨M, 0, none⟩ = some (.slice none 0 0) := (HB4.out.cell lMV).trans vM; have f4 : w4.frozen? ⟨M, 0, none⟩ = false := (HB4.out.frozen lMV).trans fM2; clear hown1 hg1 hnil1)
  refine leaves_cons (f := 94) (args := #[.pointer (some ⟨X, 0, none⟩)]) (by simp) (by simp [go_sem]) ?_
  have x4 : w4.cell? ⟨X, 0, none⟩ = some (.int .i32 1) := (HB4.out.cell lXV).trans vX
  have g4 : w4.frozen? ⟨X, 0, none⟩ = false := (HB4.out.frozen lXV).trans fX2
  refine (unlock_deferred muLib ⟨X, 0, none⟩ .returning _ ?_ ?_).mono ?_
  · rw [World.cell?_setCell_other _ _ _ _ (by intro e; injection e; omega)]; exact x4
  · simpa using g4
  rintro e u' w'' ⟨rfl, rfl, rfl⟩
  refine ⟨_, results_none rfl _ _ _, rfl, ?_⟩
  have HVo := HV.out
  have bv : ∀ k, k < w.heap.size → k ≠ X → V.heap[k]? = w.heap[k]? := fun k hk hx => by
    rw [← HVo, Below.heap_setCell _ _ _ _ (by show k ≠ X; exact hx)]; exact bW.block k hk
  refine ⟨?_, ?_, ?_, ?_, ?_⟩
  · exact HB4.out.os.trans (by rw [← HVo]; exact bW.os)
  · exact HB4.out.tape.trans (by rw [← HVo]; exact bW.tape)
  · exact HB4.out.output.trans (by rw [← HVo]; exact bW.output)
  · have h1 := HB4.out.size
    have h2 := HVS.out
    simp only [World.setCell]
    simp
    omega
  · intro k hk hx hm
    rw [Below.heap_setCell _ _ _ _ (by show k ≠ X; exact hx), Below.heap_setCell _ _ _ _ (by show k ≠ M; exact hm), HB4.out.block k (by have := HVS.out; omega)]
    exact bv k hk hx
end Go.Proofs.YtocciemgdikmjaaDoor
