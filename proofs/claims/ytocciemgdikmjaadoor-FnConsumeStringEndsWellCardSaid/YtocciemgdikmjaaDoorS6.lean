/-
  MsgLocationOrNil, MsgData.
-/
import Derived.Test.YtocciemgdikmjaaDoorS5
import Derived.BigRegion
namespace Go.Proofs.YtocciemgdikmjaaDoor
open Go.ChangeShapes Go.WideShapes Go.ChangeAt Go.RowKit
open Go.Lib (decodeN decode_at decodeGo)
set_option linter.unusedVariables false
theorem below_alloc0 (w : World) (o : Obj) : Below w.heap.size w (w.alloc o) := (Below.refl _ _).alloc (Nat.le_refl _) _
theorem TK.alloc {w : World} {g : Nat} {s : ByteArray} {off ln ls le : Int} {hs he : Bool} (h : TK w g s off ln ls le hs he) (o : Obj) : TK (w.alloc o) g s off ln ls le hs he := h.keep (below_alloc0 w o)
theorem Trk.from {w w1 w' : World} {g : Nat} (hb : Below w.heap.size w w1) (hg : g < w.heap.size) (h : Trk w1 w' g) : Trk w w' g :=
  ⟨⟨h.by_.os.trans hb.os, h.by_.tape.trans hb.tape, h.by_.output.trans hb.output, Nat.le_trans hb.size h.by_.size, fun k hk hn => (h.by_.block k (Nat.lt_of_lt_of_le hk hb.size) hn).trans (hb.block k hk)⟩, fun i a => (h.cells i a).trans (hb.cell hg)⟩
theorem grown_cell {w w' : World} {g b j : Nat} (h : w.grownBy w' (some g)) (hb : b < w.heap.size) (hn : b ≠ g) : w'.cell? ⟨b, j, none⟩ = w.cell? ⟨b, j, none⟩ := by
  have e : w'.heap[b]? = w.heap[b]? := h.block b hb (by intro e; injection e; omega)
  simp only [World.cell?, e]
set_option maxRecDepth 100000 in
set_option maxHeartbeats 4000000 in
theorem ml107 (w : World) (g : Nat) (s : ByteArray) (off : Nat) (h : TK w g s 0 0 0 0 true false) (w0 : World) (hT : Lib.Utf8Tabs 0 1 w0) (hbw : Below w0.heap.size w0 w) (lo : w0.heap.size ≤ g) (h0 : 0 < off) (h1 : off ≤ s.size) (hs : s.size ≤ 1048576) :
    Calls Tryd.prog 107 #[.pointer (some ⟨g, 22, none⟩), .agg #[.int .i32 off, .int .i32 0]] w fun e w' => (∃ k, e = .returned (.pointer (some ⟨k, 0, none⟩))) ∧ Trk w w' g := by
  have hA := below_alloc0 w (.cells #[.int .i32 (off : Nat), .int .i32 0] 30)
  have HC := Lib.hid (cl116 _ g s off (h.alloc (.cells #[.int .i32 (off : Nat), .int .i32 0] 30)) w0 hT (hbw.trans (hA.mono hbw.size)) lo h0 h1 hs)
  have HL := Lib.hid h.lt; have HA := Lib.hid hA
  obtain ⟨lt, c22, c23, c24, c25, c26, c27, c28, c29, c30, c31, fz⟩ := id h
  clear hT hbw lo hA
  go_enter Tryd.func107, Tryd.ntmps107
  go_wp2_with fail
  refine HC.out.mono ?_
  rintro e w1 ⟨i, ln, ls, le, rfl, hle, hles, hlns, tk, trk⟩
  have hr1 : w1.cell? ⟨w.heap.size, 1, none⟩ = some (.int .i32 0) := by
    rw [grown_cell trk.by_ (by simp) (by have := HL.out; omega)]
    exact cell_of (heap_alloc_new w _) 1
  have HTRK := Lib.hid (Trk.from HA.out HL.out trk)
  have HTK := Lib.hid tk
  clear lt c22 c23 c24 c25 c26 c27 c28 c29 c30 c31 fz h trk
  obtain ⟨lt, c22, c23, c24, c25, c26, c27, c28, c29, c30, c31, fz⟩ := id tk
  clear tk HC
  dsimp only
  go_wp2_with fail
  go_region
  go_wp2_with fail
  go_ret
  exact ⟨⟨_, rfl⟩, (HTRK.out.below (below_alloc0 _ _) lt).drew⟩
theorem set4 {W : World} {R : Nat} {z0 z1 z2 z3 : Value} {ty : TypeId} (h : W.heap[R]? = some (.cells #[z0, z1, z2, z3] ty)) (a b c d : Value) : ((((W.setCell ⟨R, 0, none⟩ a).setCell ⟨R, 1, none⟩ b).setCell ⟨R, 2, none⟩ c).setCell ⟨R, 3, none⟩ d).heap[R]? = some (.cells #[a, b, c, d] ty) := by
  have h0 := heap_setCell_same _ R 0 _ ty a h
  have h1 := heap_setCell_same _ R 1 _ ty b h0
  have h2 := heap_setCell_same _ R 2 _ ty c h1
  have h3 := heap_setCell_same _ R 3 _ ty d h2
  simpa using h3
theorem Trk.new {w w1 : World} {g : Nat} (h : Trk w w1 g) (R j : Nat) (v : Value) (hR : w.heap.size ≤ R) (hg : g < w.heap.size) : Trk w (w1.setCell ⟨R, j, none⟩ v) g :=
  ⟨⟨h.by_.os, h.by_.tape, h.by_.output, by simpa [World.setCell] using h.by_.size, fun k hi hne => (Below.heap_setCell w1 ⟨R, j, none⟩ v k (by show k ≠ R; omega)).trans (h.by_.block k hi hne)⟩,
   fun i a => by rw [World.cell?_setCell_other _ _ _ _ (by intro e; injection e; omega)]; exact h.cells i a⟩
theorem Trk.below4 {w w1 : World} {g : Nat} (h : Trk w w1 g) {R : Nat} (hR : w.heap.size ≤ R) (hg : g < w.heap.size) {a b c d : Value} : Trk w ((((w1.setCell ⟨R, 0, none⟩ a).setCell ⟨R, 1, none⟩ b).setCell ⟨R, 2, none⟩ c).setCell ⟨R, 3, none⟩ d) g :=
  (((h.new R 0 a hR hg).new R 1 b hR hg).new R 2 c hR hg).new R 3 d hR hg
set_option maxRecDepth 100000 in
set_option maxHeartbeats 4000000 in
theorem md90 (w : World) (g : Nat) (s : ByteArray) (off : Nat) (t : ByteArray) (h : TK w g s 0 0 0 0 true false) (w0 : World) (hT : Lib.Utf8Tabs 0 1 w0) (hbw : Below w0.heap.size w0 w) (lo : w0.heap.size ≤ g) (h0 : 0 < off) (h1 : off ≤ s.size) (hs : s.size ≤ 1048576) :
    Calls Tryd.prog 90 #[.pointer (some ⟨g, 22, none⟩), .agg #[.int .i32 off, .int .i32 0], .string t] w fun e w' => (∃ k, e = .returned (.agg #[.nilIface, .pointer (some ⟨k, 0, none⟩), .string t, .bool false])) ∧ Trk w w' g := by
  have hA := below_alloc0 w (.cells #[.int .i32 (off : Nat), .int .i32 0] 30)
  have hB := hA.trans ((below_alloc0 (w.alloc (.cells #[.int .i32 (off : Nat), .int .i32 0] 30)) (.cells #[.nilIface, .pointer none, .string ⟨#[]⟩, .bool false] 124)).mono hA.size)
  have HC := Lib.hid (ml107 _ g s off ((h.alloc (.cells #[.int .i32 (off : Nat), .int .i32 0] 30)).alloc (.cells #[.nilIface, .pointer none, .string ⟨#[]⟩, .bool false] 124)) w0 hT (hbw.trans (hB.mono hbw.size)) lo h0 h1 hs)
  have HL := Lib.hid h.lt; have HB := Lib.hid hB
  have lt := h.lt
  clear hT hbw lo hA hB h
  go_enter Tryd.func90, Tryd.ntmps90
  go_wp2_with fail
  refine HC.out.mono ?_
  rintro e w1 ⟨⟨k, rfl⟩, trk⟩
  have hr : w1.heap[w.heap.size + 1]? = some (.cells #[.nilIface, .pointer none, .string ⟨#[]⟩, .bool false] 124) := by
    rw [trk.by_.block _ (by simp) (by intro e; injection e; have := HL.out; omega)]
    rw [← alloc_size w (.cells #[.int .i32 (off : Nat), .int .i32 0] 30)]
    exact heap_alloc_new _ _
  have HTRK := Lib.hid (Trk.from HB.out HL.out trk)
  have k0 := cell_of hr 0
  have k1 := cell_of hr 1
  have k2 := cell_of hr 2
  have k3 := cell_of hr 3
  have fr : ∀ i, w1.frozen? ⟨w.heap.size + 1, i, none⟩ = false := fun i => by simp only [World.frozen?, hr]; simp
  have HR := Lib.hid hr
  clear HC trk hr
  dsimp only
  go_wp2_with fail
  refine bodyPost_ret (results_cell_row rfl _ _ (w.heap.size + 1) 124 #[.nilIface, .pointer (some ⟨k, 0, none⟩), .string t, .bool false] (0, 0) _ rfl ?_ Tryd.underlying124 rfl (by kernel_rfl)) rfl ⟨⟨k, rfl⟩, ?_⟩
  · exact set4 HR.out _ _ _ _
  · have hz : w.heap.size ≤ w.heap.size + 1 := Nat.le_succ _
    exact HTRK.out.below4 hz HL.out
end Go.Proofs.YtocciemgdikmjaaDoor
