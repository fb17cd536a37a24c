/-
  The walk of FnAppendMappingDependsOnlyOnDeltas.
-/
import Derived.Test.YtbigamkmkmfdfaaDoorM7
import Derived.Test.YtbigamkmkmfdfaaDoorK4
import Derived.Deep.RegionHeld3
namespace Go.Proofs.YtbigamkmkmfdfaaDoor
open Go.ChangeShapes Go.WideShapes Go.ChangeAt Go.RowKit
set_option linter.unusedVariables false
theorem S18_of {w6 w' : World} {k : Nat} {p0 p1 p2 p3 p4 p5 : Int} {ph : Bool} {c0 c1 c2 c3 c4 c5 : Int} {ch : Bool} (h1 : Box w6 k p0 p1 p2 p3 p4 p5 ph 39) (h2 : Box w6 (k + 1) c0 c1 c2 c3 c4 c5 ch 39) (hb : Below w6.heap.size w6 w') :
    (w'.cell? ⟨k, 0, none⟩ = some (.int .i64 p0) ∧ w'.cell? ⟨k, 1, none⟩ = some (.int .i64 p1) ∧ w'.cell? ⟨k, 2, none⟩ = some (.int .i64 p2) ∧ w'.cell? ⟨k, 3, none⟩ = some (.int .i64 p3) ∧ w'.cell? ⟨k, 4, none⟩ = some (.int .i64 p4) ∧ w'.cell? ⟨k, 5, none⟩ = some (.int .i64 p5) ∧ w'.cell? ⟨k, 6, none⟩ = some (.bool ph)) ∧ (w'.cell? ⟨k + 1, 0, none⟩ = some (.int .i64 c0) ∧ w'.cell? ⟨k + 1, 1, none⟩ = some (.int .i64 c1) ∧ w'.cell? ⟨k + 1, 2, none⟩ = some (.int .i64 c2) ∧ w'.cell? ⟨k + 1, 3, none⟩ = some (.int .i64 c3) ∧ w'.cell? ⟨k + 1, 4, none⟩ = some (.int .i64 c4) ∧ w'.cell? ⟨k + 1, 5, none⟩ = some (.int .i64 c5) ∧ w'.cell? ⟨k + 1, 6, none⟩ = some (.bool ch)) ∧ Below w6.heap.size w6 w' :=
  ⟨(h1.keep hb).cells, (h2.keep hb).cells, hb⟩
theorem below_re {w0 w : World} {B : Nat} {o o' : Obj} (h : Below B w0 (w.alloc o)) (hB : B ≤ w.heap.size) : Below B w0 (w.alloc o') :=
  ⟨h.os, h.tape, h.output, by have := h.size; simpa using this, fun k hk => by
    have := h.block k hk
    rw [heap_alloc_old w o (by omega)] at this
    rw [heap_alloc_old w o' (by omega)]; exact this⟩
theorem cell_drew (w : World) (a : Addr) : w.drew.cell? a = w.cell? a := rfl
theorem frozen_drew (w : World) (a : Addr) : w.drew.frozen? a = w.frozen? a := rfl
theorem heap_drew (w : World) : w.drew.heap = w.heap := rfl
theorem ok5_of {p1 p2 p3 p4 p5 c1 c2 c3 c4 c5 : Int} (hP : St26 p1 p2 p3 p4 p5) (hC : St26 c1 c2 c3 c4 c5) : Ok5 p1 p2 p3 p4 p5 c1 c2 c3 c4 c5 := by unfold St26 at *; unfold Ok5; omega
theorem outM_len (lb : Int) (om hn : Bool) (d1 d2 d3 d4 d5 : Int) : (outM [] lb om hn d1 d2 d3 d4 d5).length ≤ 64 := by
  have h1 := enc_le (zig d1); have h2 := enc_le (zig d2); have h3 := enc_le (zig d3); have h4 := enc_le (zig d4); have h5 := enc_le (zig d5)
  have hc : (cma lb).length ≤ 1 := by unfold cma; split <;> simp
  unfold outM outA
  cases om <;> cases hn <;> simp <;> omega
theorem S20_of {w9 w' : World} {k1 k2 : Nat} {I : Int} (h1 : w9.heap[k1]? = some (Obj.cells #[.int .u32 I] 45 (0, 0))) (h2 : w9.heap[k2]? = some (Obj.cells #[.int .u32 I] 45 (0, 0))) (hb : Below w9.heap.size w9 w') :
    w'.cell? ⟨k1, 0, none⟩ = some (.int .u32 I) ∧ w'.cell? ⟨k2, 0, none⟩ = some (.int .u32 I) ∧ Below w9.heap.size w9 w' :=
  ⟨(ixc ((hb.block k1 (Array.getElem?_eq_some_iff.1 h1).1).trans h1)).1, (ixc ((hb.block k2 (Array.getElem?_eq_some_iff.1 h2).1).trans h2)).1, hb⟩
theorem sub_sh (a b c : Int) : a + c - (b + c) = a - b := by omega
theorem ok5_sh {p1 p2 p3 p4 p5 c1 c2 c3 c4 c5 : Int} (s1 s2 s3 s4 s5 : Int) (h : Ok5 p1 p2 p3 p4 p5 c1 c2 c3 c4 c5) : Ok5 (p1 + s1) (p2 + s2) (p3 + s3) (p4 + s4) (p5 + s5) (c1 + s1) (c2 + s2) (c3 + s3) (c4 + s4) (c5 + s5) := by
  unfold Ok5 at *
  omega
set_option maxRecDepth 100000 in
set_option maxHeartbeats 8000000 in
theorem FnAppendMappingDependsOnlyOnDeltas_walk (lb : Int) (p0 p1 p2 p3 p4 p5 : Int) (ph : Bool) (c0 c1 c2 c3 c4 c5 : Int) (ch : Bool) (s0 s1 s2 s3 s4 s5 : Int) (sh : Bool) (om : Bool) (w : World) (hT : Lib.TabSlice 0 .u8 b64 w) :
    Calls Tryd.prog 5 #[.int .u8 lb, .agg (stV p0 p1 p2 p3 p4 p5 ph), .agg (stV c0 c1 c2 c3 c4 c5 ch), .agg (stV s0 s1 s2 s3 s4 s5 sh), .bool om] w fun e w' => e = .returned (.bool true) ∧ Below w.heap.size w w' := by
  obtain ⟨R, o, cc, hTab⟩ := tab_in hT
  clear hT
  obtain ⟨W0, hW0⟩ : ∃ W0, ((w.alloc (Obj.cells (stV p0 p1 p2 p3 p4 p5 ph) 39)).alloc (Obj.cells (stV c0 c1 c2 c3 c4 c5 ch) 39)).alloc (Obj.cells (stV s0 s1 s2 s3 s4 s5 sh) 39) = W0 := ⟨_, rfl⟩
  have hb0 : Below w.heap.size w W0 := by rw [← hW0]; exact (((Below.refl _ _).alloc (Nat.le_refl _) _).alloc (by simp) _).alloc (by simp; omega) _
  have HW0 := Lib.hid hW0; have KB := Lib.hid hb0
  have BP0 := Lib.hid (show Box W0 w.heap.size p0 p1 p2 p3 p4 p5 ph 39 by rw [← hW0]; exact ((Box.new w _ _ _ _ _ _ _ _).alloc _).alloc _)
  have BC0 := Lib.hid (show Box W0 (w.heap.size + 1) c0 c1 c2 c3 c4 c5 ch 39 by rw [← hW0]; have := (Box.new (w.alloc (Obj.cells (stV p0 p1 p2 p3 p4 p5 ph) 39)) c0 c1 c2 c3 c4 c5 ch 39).alloc (Obj.cells (stV s0 s1 s2 s3 s4 s5 sh) 39); rwa [show (w.alloc (Obj.cells (stV p0 p1 p2 p3 p4 p5 ph) 39)).heap.size = w.heap.size + 1 by simp] at this)
  have BS0 := Lib.hid (show Box W0 (w.heap.size + 1 + 1) s0 s1 s2 s3 s4 s5 sh 39 by rw [← hW0]; have := (Box.new ((w.alloc (Obj.cells (stV p0 p1 p2 p3 p4 p5 ph) 39)).alloc (Obj.cells (stV c0 c1 c2 c3 c4 c5 ch) 39)) s0 s1 s2 s3 s4 s5 sh 39); rwa [show ((w.alloc (Obj.cells (stV p0 p1 p2 p3 p4 p5 ph) 39)).alloc (Obj.cells (stV c0 c1 c2 c3 c4 c5 ch) 39)).heap.size = w.heap.size + 1 + 1 by simp] at this)
  have HT0 := Lib.hid (hTab.keep hb0)
  clear hW0 hb0 hTab
  obtain ⟨I, hI⟩ : ∃ I, nameI [] lb om ch (c1 - p1) (c2 - p2) (c3 - p3) (c4 - p4) = I := ⟨_, rfl⟩
  obtain ⟨XS, hX⟩ : ∃ XS, outM [] lb om ch (c1 - p1) (c2 - p2) (c3 - p3) (c4 - p4) (c5 - p5) = XS := ⟨_, rfl⟩
  have HI := Lib.hid hI; have HX := Lib.hid hX
  clear hI hX
  go_enter Tryd.func5, Tryd.ntmps5
  go_wp2_with fail
  rw [HW0.out]
  refine (ok17 p0 p1 p2 p3 p4 p5 ph W0).mono ?_
  rintro e w1 ⟨⟨b, rfl, hP⟩, be1⟩
  cases b
  · dsimp only
    go_wp2_with fail
    go_ret
    exact ⟨rfl, KB.out.trans (be1.mono KB.out.size)⟩
  have HP := Lib.hid (hP rfl); clear hP
  have KB1 := Lib.hid (KB.out.trans (be1.mono KB.out.size))
  have BP1 := Lib.hid (BP0.out.keep be1); have BC1 := Lib.hid (BC0.out.keep be1); have BS1 := Lib.hid (BS0.out.keep be1); have HT1 := Lib.hid (HT0.out.keep be1)
  clear BP0 BC0 BS0 HT0 KB HW0 be1
  have lt1 := BP1.out.lt; have lt2 := BC1.out.lt; have lt3 := BS1.out.lt
  obtain ⟨y0, y1, y2, y3, y4, y5, y6⟩ := BC1.out.cells
  dsimp only
  go_wp2_with fail
  refine (ok17 c0 c1 c2 c3 c4 c5 ch w1).mono ?_
  rintro e w2 ⟨⟨b, rfl, hC⟩, be2⟩
  cases b
  · dsimp only
    go_wp2_with fail
    go_ret
    exact ⟨rfl, KB1.out.trans (be2.mono KB1.out.size)⟩
  have HC := Lib.hid (hC rfl); clear hC
  have KB2 := Lib.hid (KB1.out.trans (be2.mono KB1.out.size))
  have BP2 := Lib.hid (BP1.out.keep be2); have BC2 := Lib.hid (BC1.out.keep be2); have BS2 := Lib.hid (BS1.out.keep be2); have HT2 := Lib.hid (HT1.out.keep be2)
  clear y0 y1 y2 y3 y4 y5 y6 BP1 BC1 BS1 HT1 KB1 be2 lt1 lt2 lt3
  have lt1 := BP2.out.lt; have lt2 := BC2.out.lt; have lt3 := BS2.out.lt
  obtain ⟨y0, y1, y2, y3, y4, y5, y6⟩ := BS2.out.cells
  dsimp only
  go_wp2_with fail
  refine (ok17 s0 s1 s2 s3 s4 s5 sh w2).mono ?_
  rintro e w3 ⟨⟨b, rfl, hS⟩, be3⟩
  cases b
  · dsimp only
    go_wp2_with fail
    go_ret
    exact ⟨rfl, KB2.out.trans (be3.mono KB2.out.size)⟩
  have HS := Lib.hid (hS rfl); clear hS
  have KB3 := Lib.hid (KB2.out.trans (be3.mono KB2.out.size))
  have BP3 := Lib.hid (BP2.out.keep be3); have BC3 := Lib.hid (BC2.out.keep be3); have BS3 := Lib.hid (BS2.out.keep be3); have HT3 := Lib.hid (HT2.out.keep be3)
  clear y0 y1 y2 y3 y4 y5 y6 BP2 BC2 BS2 HT2 KB2 be3 lt1 lt2 lt3
  have lt1 := BP3.out.lt; have lt2 := BC3.out.lt; have lt3 := BS3.out.lt
  obtain ⟨y0, y1, y2, y3, y4, y5, y6⟩ := BP3.out.cells
  dsimp only
  go_wp2_with fail
  refine (sm18 p0 p1 p2 p3 p4 p5 ph w3).mono ?_
  rintro e w4 ⟨rfl, be4⟩
  dsimp only
  have KB4 := Lib.hid (KB3.out.trans (be4.mono KB3.out.size))
  have BP4 := Lib.hid (BP3.out.keep be4); have BC4 := Lib.hid (BC3.out.keep be4); have BS4 := Lib.hid (BS3.out.keep be4); have HT4 := Lib.hid (HT3.out.keep be4)
  clear y0 y1 y2 y3 y4 y5 y6 BP3 BC3 BS3 HT3 KB3 be4 lt1 lt2 lt3
  have lt1 := BP4.out.lt; have lt2 := BC4.out.lt; have lt3 := BS4.out.lt
  obtain ⟨y0, y1, y2, y3, y4, y5, y6⟩ := BC4.out.cells
  obtain ⟨z0, z1, z2, z3, z4, z5, z6⟩ := BS4.out.cells
  obtain ⟨hs1, hs2, hs3, hs4, hs5⟩ := HS.out
  obtain ⟨hp1, hp2, hp3, hp4, hp5⟩ := HP.out
  go_wp2_with fail
  obtain ⟨W4, hW4⟩ : ∃ W4, w4.alloc (Obj.cells (stV s0 (p1 + s1) (p2 + s2) (p3 + s3) (p4 + s4) (p5 + s5) sh) 41) = W4 := ⟨_, rfl⟩
  rw [hW4]
  have hb4 : Below w4.heap.size w4 W4 := by rw [← hW4]; exact (Below.refl _ _).alloc (Nat.le_refl _) _
  have BQ4 : Box W4 w4.heap.size s0 (p1 + s1) (p2 + s2) (p3 + s3) (p4 + s4) (p5 + s5) sh 41 := by rw [← hW4]; exact Box.new _ _ _ _ _ _ _ _ _
  refine (sm18 c0 c1 c2 c3 c4 c5 ch W4).mono ?_
  rintro e w5 ⟨rfl, be5⟩
  dsimp only
  have be5' : Below w4.heap.size w4 w5 := hb4.trans (be5.mono hb4.size)
  have KB5 := Lib.hid (KB4.out.trans (be5'.mono KB4.out.size))
  have BP5 := Lib.hid (BP4.out.keep be5'); have BC5 := Lib.hid (BC4.out.keep be5'); have BS5 := Lib.hid (BS4.out.keep be5'); have HT5 := Lib.hid (HT4.out.keep be5'); have BQ5 := Lib.hid (BQ4.keep be5)
  clear y0 y1 y2 y3 y4 y5 y6 z0 z1 z2 z3 z4 z5 z6 BP4 BC4 BS4 HT4 KB4 be5 be5' hb4 hW4 BQ4 lt1 lt2 lt3 hp1 hp2 hp3 hp4 hp5
  have lt1 := BP5.out.lt; have lt2 := BC5.out.lt; have lt3 := BS5.out.lt; have lt4 := BQ5.out.lt
  obtain ⟨z0, z1, z2, z3, z4, z5, z6⟩ := BS5.out.cells
  have y0 := BP5.out.cells.1
  obtain ⟨hc1, hc2, hc3, hc4, hc5⟩ := HC.out
  go_wp2_with fail
  obtain ⟨w6, hw6⟩ : ∃ w6, w5.alloc (Obj.cells (stV p0 (c1 + s1) (c2 + s2) (c3 + s3) (c4 + s4) (c5 + s5) ch) 41) = w6 := ⟨_, rfl⟩
  have q0 : (w5.alloc (Obj.cells #[Value.int IntKind.i64 p0, Value.int IntKind.i64 (c1 + s1), Value.int IntKind.i64 (c2 + s2), Value.int IntKind.i64 (c3 + s3), Value.int IntKind.i64 (c4 + s4), Value.int IntKind.i64 (c5 + s5), Value.bool ch] 41)) = w6 := hw6
  rw [q0]
  have hb6 : Below w5.heap.size w5 w6 := by rw [← hw6]; exact (Below.refl _ _).alloc (Nat.le_refl _) _
  have BD6 := Lib.hid (show Box w6 w5.heap.size p0 (c1 + s1) (c2 + s2) (c3 + s3) (c4 + s4) (c5 + s5) ch 41 by rw [← hw6]; exact Box.new _ _ _ _ _ _ _ _ _)
  have KB6 := Lib.hid (KB5.out.trans (hb6.mono KB5.out.size))
  have BP6 := Lib.hid (BP5.out.keep hb6); have BC6 := Lib.hid (BC5.out.keep hb6); have HT6 := Lib.hid (HT5.out.keep hb6); have BQ6 := Lib.hid (BQ5.out.keep hb6)
  clear z0 z1 z2 z3 z4 z5 z6 y0 hc1 hc2 hc3 hc4 hc5 hs1 hs2 hs3 hs4 hs5 BP5 BC5 BS5 HT5 KB5 BQ5 hb6 q0 hw6 lt1 lt2 lt3 lt4
  have lt1 := BP6.out.lt; have lt2 := BC6.out.lt; have lt3 := BQ6.out.lt; have lt4 := BD6.out.lt
  go_region_held3 (fun w' => (w'.cell? ⟨w.heap.size, 0, none⟩ = some (.int .i64 p0) ∧ w'.cell? ⟨w.heap.size, 1, none⟩ = some (.int .i64 p1) ∧ w'.cell? ⟨w.heap.size, 2, none⟩ = some (.int .i64 p2) ∧ w'.cell? ⟨w.heap.size, 3, none⟩ = some (.int .i64 p3) ∧ w'.cell? ⟨w.heap.size, 4, none⟩ = some (.int .i64 p4) ∧ w'.cell? ⟨w.heap.size, 5, none⟩ = some (.int .i64 p5) ∧ w'.cell? ⟨w.heap.size, 6, none⟩ = some (.bool ph)) ∧ (w'.cell? ⟨w.heap.size + 1, 0, none⟩ = some (.int .i64 c0) ∧ w'.cell? ⟨w.heap.size + 1, 1, none⟩ = some (.int .i64 c1) ∧ w'.cell? ⟨w.heap.size + 1, 2, none⟩ = some (.int .i64 c2) ∧ w'.cell? ⟨w.heap.size + 1, 3, none⟩ = some (.int .i64 c3) ∧ w'.cell? ⟨w.heap.size + 1, 4, none⟩ = some (.int .i64 c4) ∧ w'.cell? ⟨w.heap.size + 1, 5, none⟩ = some (.int .i64 c5) ∧ w'.cell? ⟨w.heap.size + 1, 6, none⟩ = some (.bool ch)) ∧ Below w6.heap.size w6 w')
    (first | exact S18_of BP6.out BC6.out (Below.drew (Below.refl _ _)) | exact S18_of BP6.out BC6.out (Below.drew (Below.alloc (Below.refl _ _) (Nat.le_refl _) _)) | (go_split_ands; exact S18_of BP6.out BC6.out (Below.alloc ‹Below w6.heap.size w6 _› (Below.size ‹_›) _)) | (go_split_ands; exact S18_of BP6.out BC6.out (Below.trans ‹Below w6.heap.size w6 _› (Below.mono be7 (Below.size ‹Below w6.heap.size w6 _›)))) | (go_split_ands; exact S18_of BP6.out BC6.out (Below.trans ‹Below w6.heap.size w6 _› (Below.mono bec (Below.size ‹Below w6.heap.size w6 _›)))) | (go_split_ands; exact S18_of BP6.out BC6.out (Below.trans ‹Below w6.heap.size w6 _› (Below.mono bep (Below.size ‹Below w6.heap.size w6 _›)))) | (go_split_ands; exact S18_of BP6.out BC6.out (below_re ‹Below w6.heap.size w6 (World.alloc _ _)› (by first | omega | (simp at *; omega)))) | (go_split_ands; exact S18_of BP6.out BC6.out (Below.setCell ‹Below w6.heap.size w6 _› (by first | omega | (simp at *; omega)) _)) | (go_split_ands; exact S18_of BP6.out BC6.out (Below.setCell ‹Below w6.heap.size w6 _› (Nat.le_refl _) _)) | fail)
    (first | (go_at_call 18; (fail_if_success have hh := bep); refine (sm18 _ _ _ _ _ _ _ _).mono ?_; rintro e wp ⟨rfl, bep⟩; have rc := fun (a : Addr) (h : a.block < _) => bep.cell (p := a) h; have rf := fun (a : Addr) (h : a.block < _) => bep.frozen (p := a) h; have sz := bep.size; have st := fun (k : Nat) (h : k < _) => Nat.lt_of_lt_of_le h bep.size; (try simp at sz); (try simp only [cell_drew, heap_drew, frozen_drew] at rc rf st); (try (have s6 : w6.heap.size < wp.heap.size := (by first | omega | fail)))) | (go_at_call 18; refine (sm18 _ _ _ _ _ _ _ _).mono ?_; rintro e wc ⟨rfl, bec⟩; have rc := fun (a : Addr) (h : a.block < _) => bec.cell (p := a) h; have rf := fun (a : Addr) (h : a.block < _) => bec.frozen (p := a) h; have sz := bec.size; have st := fun (k : Nat) (h : k < _) => Nat.lt_of_lt_of_le h bec.size; (try simp at sz); (try simp only [cell_drew, heap_drew, frozen_drew] at rc rf st); (try (have s6 : w6.heap.size < wc.heap.size := (by first | omega | fail)))) | (go_at_call 19; go_split_ands; refine (zzN _ lb om ch p0 p1 p2 p3 p4 p5 ph c0 c1 c2 c3 c4 c5 R o cc (HT6.out.keep ‹Below w6.heap.size w6 _›) (ok5_of HP.out HC.out) I XS HI.out HX.out).mono ?_; rintro e w7 ⟨⟨v8, rfl, o8⟩, be7⟩; have bel7 := ‹Below w6.heap.size w6 _›; have rc := fun (a : Addr) (h : a.block < _) => be7.cell (p := a) h; have rf := fun (a : Addr) (h : a.block < _) => be7.frozen (p := a) h; have sz := be7.size; have st := fun (k : Nat) (h : k < _) => Nat.lt_of_lt_of_le h be7.size; (try simp at sz); (try simp only [cell_drew, heap_drew, frozen_drew] at rc rf st); (try (have s6 : w6.heap.size < w7.heap.size := (by first | omega | fail))); have O8 := Lib.hid o8; clear o8))
  all_goals first
    | (have hxF : (w7.alloc (Obj.cells #[Value.int IntKind.u32 I] 45)).heap[w7.heap.size]? = some (Obj.cells #[Value.int IntKind.u32 I] 45 (0, 0)) := heap_alloc_new _ _
       have hOF : OwnB (w7.alloc (Obj.cells #[Value.int IntKind.u32 I] 45)) w6.heap.size v8 XS := OwnB.mono (World.ownsRow.alloc O8.out _) bel7.size
       have hBF : Below w6.heap.size w6 (w7.alloc (Obj.cells #[Value.int IntKind.u32 I] 45)) := (bel7.trans (be7.mono bel7.size)).alloc (Nat.le_trans bel7.size be7.size) _
       have hKF : w6.heap.size ≤ w7.heap.size := Nat.le_trans bel7.size be7.size
       obtain ⟨WF, hWF⟩ : ∃ WF, w7.alloc (Obj.cells #[Value.int IntKind.u32 I] 45) = WF := ⟨_, rfl⟩
       obtain ⟨KF, hKK⟩ : ∃ KF, w7.heap.size = KF := ⟨_, rfl⟩
       rw [hWF, hKK]
       rw [hWF, hKK] at hxF
       rw [hWF] at hOF hBF
       rw [hKK] at hKF)
    | (have hx7 : w7.heap[wc.heap.size]? = some (Obj.cells #[Value.int IntKind.u32 0] 45 (0, 0)) := (be7.block _ (by simp)).trans (heap_alloc_new wc _)
       have hxF := ix_set I hx7
       have hOF := OwnB.mono (own_set O8.out hx7 (by decide) (Value.int IntKind.u32 I)) bel7.size
       have hKF : w6.heap.size ≤ wc.heap.size := by omega
       have hBF : Below w6.heap.size w6 (w7.setCell ⟨wc.heap.size, 0, none⟩ (Value.int IntKind.u32 I)) := (bel7.trans (be7.mono bel7.size)).setCell hKF _
       obtain ⟨WF, hWF⟩ : ∃ WF, w7.setCell ⟨wc.heap.size, 0, none⟩ (Value.int IntKind.u32 I) = WF := ⟨_, rfl⟩
       obtain ⟨KF, hKK⟩ : ∃ KF, wc.heap.size = KF := ⟨_, rfl⟩
       rw [hWF] at hxF hOF hBF
       rw [hWF, hKK]
       rw [hKK] at hxF hKF)
    | (have hxc : wc.heap[wp.heap.size]? = some (Obj.cells #[Value.int IntKind.u32 0] 45 (0, 0)) := (bec.block _ (by simp)).trans (heap_alloc_new wp _)
       have hx7 : w7.heap[wp.heap.size]? = some (Obj.cells #[Value.int IntKind.u32 0] 45 (0, 0)) := (be7.block _ (Array.getElem?_eq_some_iff.1 hxc).1).trans hxc
       have hxF := ix_set I hx7
       have hOF := OwnB.mono (own_set O8.out hx7 (by decide) (Value.int IntKind.u32 I)) bel7.size
       have hKF : w6.heap.size ≤ wp.heap.size := by omega
       have hBF : Below w6.heap.size w6 (w7.setCell ⟨wp.heap.size, 0, none⟩ (Value.int IntKind.u32 I)) := (bel7.trans (be7.mono bel7.size)).setCell hKF _
       obtain ⟨WF, hWF⟩ : ∃ WF, w7.setCell ⟨wp.heap.size, 0, none⟩ (Value.int IntKind.u32 I) = WF := ⟨_, rfl⟩
       obtain ⟨KF, hKK⟩ : ∃ KF, wp.heap.size = KF := ⟨_, rfl⟩
       rw [hWF] at hxF hOF hBF
       rw [hWF, hKK]
       rw [hKK] at hxF hKF)
    | (have hxp : wp.heap[w6.heap.size]? = some (Obj.cells #[Value.int IntKind.u32 0] 45 (0, 0)) := (bep.block _ (by simp)).trans (heap_alloc_new w6 _)
       have hxc : wc.heap[w6.heap.size]? = some (Obj.cells #[Value.int IntKind.u32 0] 45 (0, 0)) := (bec.block _ (Array.getElem?_eq_some_iff.1 hxp).1).trans hxp
       have hx7 : w7.heap[w6.heap.size]? = some (Obj.cells #[Value.int IntKind.u32 0] 45 (0, 0)) := (be7.block _ (Array.getElem?_eq_some_iff.1 hxc).1).trans hxc
       have hxF := ix_set I hx7
       have hOF := OwnB.mono (own_set O8.out hx7 (by decide) (Value.int IntKind.u32 I)) bel7.size
       have hKF : w6.heap.size ≤ w6.heap.size := Nat.le_refl _
       have hBF : Below w6.heap.size w6 (w7.setCell ⟨w6.heap.size, 0, none⟩ (Value.int IntKind.u32 I)) := (bel7.trans (be7.mono bel7.size)).setCell hKF _
       obtain ⟨WF, hWF⟩ : ∃ WF, w7.setCell ⟨w6.heap.size, 0, none⟩ (Value.int IntKind.u32 I) = WF := ⟨_, rfl⟩
       obtain ⟨KF, hKK⟩ : ∃ KF, w6.heap.size = KF := ⟨_, rfl⟩
       rw [hWF] at hxF hOF hBF
       rw [hWF, hKK]
       rw [hKK] at hxF)
    | fail
  all_goals
    have KBF := Lib.hid (KB6.out.trans (hBF.mono KB6.out.size)); have HOF := Lib.hid hOF; have HXF := Lib.hid hxF; have HTF := Lib.hid (HT6.out.keep hBF)
    have BQF := Lib.hid (BQ6.out.keep hBF); have BDF := Lib.hid (BD6.out.keep hBF)
    clear hOF hBF hxF hKF
    have lq := BQF.out.lt; have ld := BDF.out.lt
    obtain ⟨y0, y1, y2, y3, y4, y5, y6⟩ := BQF.out.cells
    obtain ⟨z0, z1, z2, z3, z4, z5, z6⟩ := BDF.out.cells
    clear BP6 BC6 BQ6 BD6 HT6 KB6 lt1 lt2 lt3 lt4
    clear bep bec be7 bel7 rc rf sz st O8 hWF hKK
    go_wp2_with fail
    refine (zzN WF lb om ch s0 (p1 + s1) (p2 + s2) (p3 + s3) (p4 + s4) (p5 + s5) sh p0 (c1 + s1) (c2 + s2) (c3 + s3) (c4 + s4) (c5 + s5) R o cc HTF.out (ok5_sh s1 s2 s3 s4 s5 (ok5_of HP.out HC.out)) I XS (by rw [sub_sh, sub_sh, sub_sh, sub_sh]; exact HI.out) (by rw [sub_sh, sub_sh, sub_sh, sub_sh, sub_sh]; exact HX.out)).mono ?_
    rintro e w8 ⟨⟨v9, rfl, o9⟩, be8⟩
    have KB8 := Lib.hid (KBF.out.trans (be8.mono KBF.out.size)); have HO8 := Lib.hid (HOF.out.keep be8); have HX8 := Lib.hid ((be8.block KF (Array.getElem?_eq_some_iff.1 HXF.out).1).trans HXF.out); have HO9 := Lib.hid o9
    clear be8 o9 y0 y1 y2 y3 y4 y5 y6 z0 z1 z2 z3 z4 z5 z6 lq ld HTF BQF BDF KBF HOF HXF
    obtain ⟨r1, r2⟩ := ixc HX8.out
    have lk : KF < w8.heap.size := (Array.getElem?_eq_some_iff.1 HX8.out).1
    dsimp only
    go_wp2_with fail
    obtain ⟨w9, hw9⟩ : ∃ w9, w8.alloc (Obj.cells #[Value.int IntKind.u32 I] 45) = w9 := ⟨_, rfl⟩
    have hb9 : Below w8.heap.size w8 w9 := by rw [← hw9]; exact (Below.refl _ _).alloc (Nat.le_refl _) _
    have hx9 : w9.heap[w8.heap.size]? = some (Obj.cells #[Value.int IntKind.u32 I] 45 (0, 0)) := by rw [← hw9]; exact heap_alloc_new _ _
    have hk9 : w9.heap[KF]? = some (Obj.cells #[Value.int IntKind.u32 I] 45 (0, 0)) := (hb9.block KF lk).trans HX8.out
    have KB9 := Lib.hid (KB8.out.trans (hb9.mono KB8.out.size)); have D8 := Lib.hid (HO8.out.keep hb9).bytes; have D9 := Lib.hid (HO9.out.keep hb9).bytes
    have HX9 := Lib.hid hx9; have HK9 := Lib.hid hk9
    rw [hw9]
    clear hw9 hb9 hx9 hk9 KB8 HO8 HO9 HX8 r1 r2
    have lk9 : KF < w9.heap.size := (Array.getElem?_eq_some_iff.1 HK9.out).1
    have lx9 : w8.heap.size < w9.heap.size := (Array.getElem?_eq_some_iff.1 HX9.out).1
    have hXl : Hid (XS.length ≤ 1048576) := Lib.hid (by rw [← HX.out]; exact Nat.le_trans (outM_len _ _ _ _ _ _ _ _) (by omega))
    go_region_held3 (fun w' => w'.cell? ⟨KF, 0, none⟩ = some (.int .u32 I) ∧ w'.cell? ⟨w8.heap.size, 0, none⟩ = some (.int .u32 I) ∧ Below w9.heap.size w9 w')
      (first | exact S20_of HK9.out HX9.out (Below.drew (Below.refl _ _)) | exact S20_of HK9.out HX9.out (below_drewN _ _ _) | (go_split_ands; exact S20_of HK9.out HX9.out (Below.trans ‹Below w9.heap.size w9 _› (below_drewN _ _ _))) | (go_split_ands; exact S20_of HK9.out HX9.out (Below.trans ‹Below w9.heap.size w9 _› (Below.mono be10 (Below.size ‹Below w9.heap.size w9 _›)))) | fail)
      (first | (go_at_call 20; go_split_ands; refine (same20 _ _ _ XS XS (D8.out.keep ‹Below w9.heap.size w9 _›) (D9.out.keep ‹Below w9.heap.size w9 _›) hXl.out hXl.out).mono ?_; rintro e w10 ⟨⟨b, rfl, hb⟩, n10, rfl⟩; obtain rfl := hb.2 rfl; clear hb) | (go_at_call 21; refine (iv21 _ _).mono ?_; rintro e w10 ⟨rfl, be10⟩) | fail)
    go_split_ands
    have be9 := ‹Below w9.heap.size w9 w10›
    have KB10 := Lib.hid (KB9.out.trans (be9.mono KB9.out.size)); have HX10 := Lib.hid ((be9.block _ lx9).trans HX9.out); have HK10 := Lib.hid ((be9.block _ lk9).trans HK9.out)
    clear be9 KB9 HX9 HK9 lk9 lx9 D8 D9
    have lk : KF < w10.heap.size := (Array.getElem?_eq_some_iff.1 HK10.out).1
    have lx : w8.heap.size < w10.heap.size := (Array.getElem?_eq_some_iff.1 HX10.out).1
    cases hv : (I != 0)
    · obtain rfl : I = 0 := by simpa using hv
      clear hv
      have hv : ((0 : Int) != 0) = false := rfl
      go_wp2_with fail
      go_region_with ((go_at_call 21; refine (iv21 _ _).mono ?_; rw [hv]; rintro e w11 ⟨rfl, be11⟩; have be12 : Below w10.heap.size w10 w11 := (Below.drew (Below.refl _ _)).trans be11; have KB12 := Lib.hid (KB10.out.trans (be12.mono KB10.out.size)); clear be11 be12))
      all_goals
        go_wp2_with fail
        go_ret
        first | exact ⟨rfl, KB12.out⟩ | (refine ⟨ret_bool ?_, KB12.out⟩; simp)
    · go_wp2_with fail
      go_region_held3 (fun w' => w'.cell? ⟨KF, 0, none⟩ = some (.int .u32 I) ∧ w'.cell? ⟨w8.heap.size, 0, none⟩ = some (.int .u32 I) ∧ Below w10.heap.size w10 w')
        (first | assumption | exact S20_of HK10.out HX10.out (Below.drew (Below.refl _ _)) | exact S20_of HK10.out HX10.out (below_drewN _ _ _) | (go_split_ands; exact S20_of HK10.out HX10.out (Below.trans ‹Below w10.heap.size w10 _› (Below.mono be11 (Below.size ‹Below w10.heap.size w10 _›)))) | fail)
        (first | (go_at_call 21; refine (iv21 _ _).mono ?_; rw [hv]; rintro e w11 ⟨rfl, be11⟩) | (go_at_call 22; refine (gi22 _ _).mono ?_; rintro e w11 ⟨rfl, be11⟩) | fail)
      all_goals
        go_split_ands
        have be12 := ‹Below w10.heap.size w10 w11›
        have KB12 := Lib.hid (KB10.out.trans (be12.mono KB10.out.size))
        go_wp2_with fail
        go_ret
        first | exact ⟨rfl, KB12.out⟩ | (refine ⟨ret_bool ?_, KB12.out⟩; simp)
end Go.Proofs.YtbigamkmkmfdfaaDoor
