/-
  AddID.
-/
import Derived.Test.YtocciemgdikmjaaDoorS7
namespace Go.Proofs.YtocciemgdikmjaaDoor
open Go.ChangeShapes Go.WideShapes Go.ChangeAt Go.RowKit
set_option linter.unusedVariables false
/-- the log that NewDeferLog made, in memory: nothing is in it -/
structure LG (w : World) (g K X E M : Nat) : Prop where
  cK : w.cell? ⟨K, 0, none⟩ = some (.int .u8 1)
  cX : w.cell? ⟨X, 0, none⟩ = some (.int .i32 0)
  fX : w.frozen? ⟨X, 0, none⟩ = false
  cM : w.cell? ⟨M, 0, none⟩ = some (.slice none 0 0)
  fM : w.frozen? ⟨M, 0, none⟩ = false
  xm : X ≠ M
  kg : K ≠ g
  xg : X ≠ g
  mg : M ≠ g
theorem LG.keep {w w' : World} {g K X E M : Nat} (h : LG w g K X E M) (hb : Below w.heap.size w w') : LG w' g K X E M :=
  ⟨by rw [hb.cell (block_lt_of_cell h.cK)]; exact h.cK, by rw [hb.cell (block_lt_of_cell h.cX)]; exact h.cX, by rw [hb.frozen (block_lt_of_cell h.cX)]; exact h.fX, by rw [hb.cell (block_lt_of_cell h.cM)]; exact h.cM, by rw [hb.frozen (block_lt_of_cell h.cM)]; exact h.fM, h.xm, h.kg, h.xg, h.mg⟩
theorem grown_frozen {w w' : World} {g b j : Nat} (h : w.grownBy w' (some g)) (hb : b < w.heap.size) (hn : b ≠ g) : w'.frozen? ⟨b, j, none⟩ = w.frozen? ⟨b, j, none⟩ := by
  have e : w'.heap[b]? = w.heap[b]? := h.block b hb (by intro e; injection e; omega)
  simp only [World.frozen?, e]
theorem LG.grown {w w' : World} {g K X E M : Nat} (h : LG w g K X E M) (hb : w.grownBy w' (some g)) : LG w' g K X E M :=
  ⟨(grown_cell hb (block_lt_of_cell h.cK) h.kg).trans h.cK, (grown_cell hb (block_lt_of_cell h.cX) h.xg).trans h.cX, (grown_frozen hb (block_lt_of_cell h.cX) h.xg).trans h.fX, (grown_cell hb (block_lt_of_cell h.cM) h.mg).trans h.cM, (grown_frozen hb (block_lt_of_cell h.cM) h.mg).trans h.fM, h.xm, h.kg, h.xg, h.mg⟩
theorem LG.drew {w : World} {g K X E M : Nat} (h : LG w g K X E M) : LG w.drew g K X E M := ⟨h.cK, h.cX, h.fX, h.cM, h.fM, h.xm, h.kg, h.xg, h.mg⟩
/-- of what was there only the tracker's numbers and the log's blocks X, M may have turned -/
structure Thr (w w' : World) (g X M : Nat) : Prop where
  os : w'.os = w.os
  tape : w'.tape = w.tape
  output : w'.output = w.output
  size : w.heap.size ≤ w'.heap.size
  block : ∀ k, k < w.heap.size → k ≠ g → k ≠ X → k ≠ M → w'.heap[k]? = w.heap[k]?
  cells : ∀ i, i < 25 ∨ 30 < i → w'.cell? ⟨g, i, none⟩ = w.cell? ⟨g, i, none⟩
theorem thr_of {w w1 w2 : World} {g X M : Nat} (h1 : Trk w w1 g) (h2 : Two w1 w2 X M) (hg : g < w.heap.size) (xg : X ≠ g) (mg : M ≠ g) : Thr w w2 g X M := by
  have hs := h1.by_.size
  refine ⟨h2.os.trans h1.by_.os, h2.tape.trans h1.by_.tape, h2.output.trans h1.by_.output, Nat.le_trans hs h2.size, fun k hk a b c => (h2.block k (by omega) b c).trans (h1.by_.block k hk (by intro e; injection e; omega)), fun i hi => ?_⟩
  have e : w2.heap[g]? = w1.heap[g]? := h2.block g (by omega) (fun e => xg e.symm) (fun e => mg e.symm)
  rw [← h1.cells i hi]
  simp only [World.cell?, e]
theorem Thr.drew {w w1 : World} {g X M : Nat} (h : Thr w w1 g X M) : Thr w w1.drew g X M := ⟨h.os, h.tape, h.output, h.size, h.block, h.cells⟩
set_option maxRecDepth 100000 in
set_option maxHeartbeats 4000000 in
theorem ai73 (w : World) (g K X E M : Nat) (s t : ByteArray) (off : Nat) (f1 f2 f3 : Value) (h : TK w g s 0 0 0 0 true false) (hL : LG w g K X E M) (w0 : World) (hT : Lib.Utf8Tabs 0 1 w0) (hbw : Below w0.heap.size w0 w) (lo : w0.heap.size ≤ g) (h0 : 0 < off) (h1 : off ≤ s.size) (hs : s.size ≤ 1048576) :
    Calls Tryd.prog 73 #[.agg #[.func (Fn.func 92) #[] #[.pointer (some ⟨K, 0, none⟩), .pointer (some ⟨X, 0, none⟩), .pointer (some ⟨E, 0, none⟩), .pointer (some ⟨M, 0, none⟩)], f1, f2, f3, .int .i8 3, .map none], .int .u8 34, .int .u8 1, .pointer (some ⟨g, 22, none⟩), .agg #[.int .i32 off, .int .i32 0], .string t] w fun e w' => e = .returned (.tuple #[]) ∧ Thr w w' g X M := by
  obtain ⟨A, hA⟩ : ∃ A, Obj.cells #[.func (Fn.func 92) #[] #[.pointer (some ⟨K, 0, none⟩), .pointer (some ⟨X, 0, none⟩), .pointer (some ⟨E, 0, none⟩), .pointer (some ⟨M, 0, none⟩)], f1, f2, f3, .int .i8 3, .map none] 59 = A := ⟨_, rfl⟩
  obtain ⟨B, hB⟩ : ∃ B, Obj.cells #[.int .i32 (off : Nat), .int .i32 0] 30 = B := ⟨_, rfl⟩
  obtain ⟨W, hW⟩ : ∃ W, (w.alloc A).alloc B = W := ⟨_, rfl⟩
  have b1 := below_alloc0 w A
  have bW : Below w.heap.size w W := by rw [← hW]; exact b1.trans ((below_alloc0 (w.alloc A) B).mono b1.size)
  have HTK := Lib.hid (h.keep bW); have HLG := Lib.hid (hL.keep bW); have HBW := Lib.hid (hbw.trans (bW.mono hbw.size)); have BW := Lib.hid bW
  have HT := Lib.hid hT; have LO := Lib.hid lo; have HG := Lib.hid h.lt
  have HWA : Hid (W.heap[w.heap.size]? = some A) := Lib.hid (by rw [← hW, alloc_old _ _ _ (by simp)]; exact heap_alloc_new w A)
  have HWB : Hid (W.heap[w.heap.size + 1]? = some B) := Lib.hid (by rw [← hW, ← alloc_size w A]; exact heap_alloc_new _ B)
  have HAO := fun w id kind => ao99 w id kind
  have HW := Lib.hid hW; have HA := Lib.hid hA; have HB := Lib.hid hB
  clear h hL hbw hT lo bW b1 hW hA hB
  go_enter Tryd.func73, Tryd.ntmps73
  go_wp2_with fail
  rw [HA.out, HB.out, HW.out]
  refine (ao99 _ _ _).mono ?_
  rintro e w1 ⟨rfl, rfl⟩
  dsimp only
  go_wp2_with fail
  have a0 : W.cell? ⟨w.heap.size, 0, none⟩ = some (.func (Fn.func 92) #[] #[.pointer (some ⟨K, 0, none⟩), .pointer (some ⟨X, 0, none⟩), .pointer (some ⟨E, 0, none⟩), .pointer (some ⟨M, 0, none⟩)]) := by
    have h := HWA.out
    rw [← HA.out] at h
    exact cell_of h 0
  have c0 : W.cell? ⟨w.heap.size + 1, 0, none⟩ = some (.int .i32 (off : Nat)) := by
    have h := HWB.out
    rw [← HB.out] at h
    exact cell_of h 0
  have c1 : W.cell? ⟨w.heap.size + 1, 1, none⟩ = some (.int .i32 0) := by
    have h := HWB.out
    rw [← HB.out] at h
    exact cell_of h 1
  have hAg : w.heap.size ≠ g := by have := HG.out; omega
  have hAW : w.heap.size < W.drew.heap.size := block_lt_of_cell a0
  go_region_with (first | (go_at_call 90; refine (md90 _ g s off t HTK.out.drew w0 HT.out HBW.out.drew LO.out h0 h1 hs).mono ?_; rintro e w1 ⟨⟨L, rfl⟩, trk⟩; have a1 : w1.cell? ⟨w.heap.size, 0, none⟩ = some (.func (Fn.func 92) #[] #[.pointer (some ⟨K, 0, none⟩), .pointer (some ⟨X, 0, none⟩), .pointer (some ⟨E, 0, none⟩), .pointer (some ⟨M, 0, none⟩)]) := (grown_cell trk.by_ hAW hAg).trans a0; have HL1 := Lib.hid (HLG.out.drew.grown trk.by_); have HTR := Lib.hid trk; clear trk) | (go_at_call 92; refine (am92 _ K X E M _ _ _ HL1.out.cK HL1.out.cX HL1.out.fX HL1.out.cM HL1.out.fM HL1.out.xm).mono ?_; rintro e w2 ⟨rfl, two⟩; have H2 := Lib.hid two; clear two))
  all_goals
    go_wp2_with fail
    go_end0
    exact ⟨rfl, thr_of (Trk.from BW.out.drew HG.out HTR.out) H2.out HG.out HLG.out.xg HLG.out.mg⟩
end Go.Proofs.YtocciemgdikmjaaDoor
