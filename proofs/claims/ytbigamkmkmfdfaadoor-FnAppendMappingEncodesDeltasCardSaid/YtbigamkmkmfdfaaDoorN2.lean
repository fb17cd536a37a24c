/-
  The walk of FnAppendMappingEncodesDeltas.
-/
import Derived.Test.YtbigamkmkmfdfaaDoorR1
import Derived.Test.YtbigamkmkmfdfaaDoorN1
import Derived.Test.YtbigamkmkmfdfaaDoorL4
import Derived.Deep.RegionHeld3
import Derived.Deep.DeepCutAuto
namespace Go.Proofs.YtbigamkmkmfdfaaDoor
open Go.ChangeShapes Go.WideShapes Go.ChangeAt Go.RowKit
set_option linter.unusedVariables false
set_option maxRecDepth 100000 in
theorem zb28 (a : Option Addr) (len cap : Nat) (lb : Int) (p c : Array Value) (om : Bool) (w : World) :
    Calls Tryd.prog 28 #[.slice a len cap, .int .u8 lb, .agg p, .agg c, .bool om] w fun e w' => (∃ b, e = .returned (.bool b) ∧ (b = true → len ≤ 1048576)) ∧ Below w.heap.size w w' := by
  by_cases h1 : len ≤ 1048576
  · go_enter Tryd.func28, Tryd.ntmps28
    go_wp2_with fail
    go_ret
    exact ⟨⟨_, rfl, fun _ => h1⟩, by first | exact Below.refl _ _ | exact (((Below.refl _ _).alloc (Nat.le_refl _) _).alloc (by simp) _)⟩
  · go_enter Tryd.func28, Tryd.ntmps28
    go_wp2_with fail
    go_ret
    exact ⟨⟨false, rfl, fun h => by cases h⟩, by first | exact Below.refl _ _ | exact (((Below.refl _ _).alloc (Nat.le_refl _) _).alloc (by simp) _)⟩
theorem S19_of {w' : World} {k : Nat} {p0 p1 p2 p3 p4 p5 : Int} {ph : Bool} {c0 c1 c2 c3 c4 c5 : Int} {ch : Bool} (h1 : Box w' k p0 p1 p2 p3 p4 p5 ph 39) (h2 : Box w' (k + 1) c0 c1 c2 c3 c4 c5 ch 39) :
    (w'.cell? ⟨k, 0, none⟩ = some (.int .i64 p0) ∧ w'.cell? ⟨k, 1, none⟩ = some (.int .i64 p1) ∧ w'.cell? ⟨k, 2, none⟩ = some (.int .i64 p2) ∧ w'.cell? ⟨k, 3, none⟩ = some (.int .i64 p3) ∧ w'.cell? ⟨k, 4, none⟩ = some (.int .i64 p4) ∧ w'.cell? ⟨k, 5, none⟩ = some (.int .i64 p5) ∧ w'.cell? ⟨k, 6, none⟩ = some (.bool ph)) ∧ (w'.cell? ⟨k + 1, 0, none⟩ = some (.int .i64 c0) ∧ w'.cell? ⟨k + 1, 1, none⟩ = some (.int .i64 c1) ∧ w'.cell? ⟨k + 1, 2, none⟩ = some (.int .i64 c2) ∧ w'.cell? ⟨k + 1, 3, none⟩ = some (.int .i64 c3) ∧ w'.cell? ⟨k + 1, 4, none⟩ = some (.int .i64 c4) ∧ w'.cell? ⟨k + 1, 5, none⟩ = some (.int .i64 c5) ∧ w'.cell? ⟨k + 1, 6, none⟩ = some (.bool ch)) ∧ Box w' k p0 p1 p2 p3 p4 p5 ph 39 ∧ Box w' (k + 1) c0 c1 c2 c3 c4 c5 ch 39 :=
  ⟨h1.cells, h2.cells, h1, h2⟩
theorem Box.set {w : World} {k b : Nat} {g c s l o n : Int} {bb : Bool} {i : Int} (h : Box w k g c s l o n bb 39) (hb : w.heap[b]? = some (Obj.cells #[.int .u32 i] 45 (0, 0))) (u : Value) : Box (w.setCell ⟨b, 0, none⟩ u) k g c s l o n bb 39 := by
  refine ⟨?_⟩
  rw [Below.heap_setCell w ⟨b, 0, none⟩ u k (by
    rintro rfl
    have hh := h.at_
    rw [hb] at hh
    injection hh with hh
    injection hh with _ h2
    exact absurd h2 (by decide))]
  exact h.at_
theorem Bytes.set {w : World} {b : Nat} {i : Int} {v : Value} {xs : List Int} (h : Bytes w v xs) (hb : w.heap[b]? = some (Obj.cells #[.int .u32 i] 45 (0, 0))) (j : Int) : Bytes (w.setCell ⟨b, 0, none⟩ (.int .u32 j)) v xs := by
  obtain ⟨p, c, e, hc, hi⟩ := h
  refine ⟨p, c, e, hc, fun k hk => ?_⟩
  obtain ⟨a, ha, hcell⟩ := hi k hk
  refine ⟨a, ha, ?_⟩
  rw [World.cell?_setCell_other _ _ _ _ (by
    intro e
    rw [← e, (ixc hb).1] at hcell
    injection hcell with hcell
    injection hcell with h1 _
    cases h1)]
  exact hcell
/-- what lies in memory behind the call -/
structure Aft (w wx : World) (KF : Nat) (v8 : Value) (I : Int) (XS xs : List Int) (q5 : Option Addr) (len0 R o cc : Nat) (p0 p1 p2 p3 p4 p5 : Int) (ph : Bool) (c0 c1 c2 c3 c4 c5 : Int) (ch : Bool) : Prop where
  own : OwnB wx w.heap.size v8 XS
  keep : Bytes wx (.slice q5 len0 len0) xs
  bp : Box wx w.heap.size p0 p1 p2 p3 p4 p5 ph 39
  bc : Box wx (w.heap.size + 1) c0 c1 c2 c3 c4 c5 ch 39
  tab : Tab wx R o cc
  off : wx.heap[KF]? = some (Obj.cells #[.int .u32 I] 45 (0, 0))
  bel : Below w.heap.size w wx
section
variable {w w7 : World} {KF : Nat} {v8 : Value} {I : Int} {XS xs : List Int} {q5 : Option Addr} {len0 R o cc : Nat} {p0 p1 p2 p3 p4 p5 : Int} {ph : Bool} {c0 c1 c2 c3 c4 c5 : Int} {ch : Bool}
theorem aft_alloc (o8 : OwnB w7 w.heap.size v8 XS) (y8 : Bytes w7 (.slice q5 len0 len0) xs) (bp : Box w7 w.heap.size p0 p1 p2 p3 p4 p5 ph 39) (bc : Box w7 (w.heap.size + 1) c0 c1 c2 c3 c4 c5 ch 39) (tb : TabB w7 w.heap.size R o cc) (kb : Below w.heap.size w w7) :
    Aft w (w7.alloc (Obj.cells #[.int .u32 I] 45)) w7.heap.size v8 I XS xs q5 len0 R o cc p0 p1 p2 p3 p4 p5 ph c0 c1 c2 c3 c4 c5 ch :=
  have hb := (Below.refl w7.heap.size w7).alloc (Nat.le_refl _) (Obj.cells #[.int .u32 I] 45)
  ⟨o8.keep hb, y8.keep hb, bp.alloc _, bc.alloc _, tb.tab.keep hb, heap_alloc_new _ _, kb.alloc kb.size _⟩
theorem aft_set (o8 : OwnB w7 w.heap.size v8 XS) (y8 : Bytes w7 (.slice q5 len0 len0) xs) (bp : Box w7 w.heap.size p0 p1 p2 p3 p4 p5 ph 39) (bc : Box w7 (w.heap.size + 1) c0 c1 c2 c3 c4 c5 ch 39) (tb : TabB w7 w.heap.size R o cc) (kb : Below w.heap.size w w7) (hx : w7.heap[KF]? = some (Obj.cells #[.int .u32 0] 45 (0, 0))) (hK : w.heap.size ≤ KF) :
    Aft w (w7.setCell ⟨KF, 0, none⟩ (.int .u32 I)) KF v8 I XS xs q5 len0 R o cc p0 p1 p2 p3 p4 p5 ph c0 c1 c2 c3 c4 c5 ch :=
  ⟨own_set o8 hx (by decide) _, y8.set hx I, bp.set hx _, bc.set hx _, (tb.below ((Below.refl _ _).setCell hK _)).tab, ix_set I hx, kb.setCell hK _⟩
end
theorem tabB_of {w w5 W : World} {R o cc : Nat} (h : Tab w5 R o cc) (hb : Below w.heap.size w w5) (h3 : Below w5.heap.size w5 W) (hR : R < w.heap.size ∧ 0 < w.heap.size) : TabB W w.heap.size R o cc := ⟨h.keep h3, hR.1, hR.2⟩
theorem ok5_28 {p1 p2 p3 p4 p5 c1 c2 c3 c4 c5 : Int} (hP : St28 p1 p2 p3 p4 p5) (hC : St28 c1 c2 c3 c4 c5) : Ok5 p1 p2 p3 p4 p5 c1 c2 c3 c4 c5 := by unfold St28 at *; unfold Ok5; omega
theorem zzU (w : World) (B : Nat) (v : Value) (xs : List Int) (lb : Int) (om hn : Bool) (p0 p1 p2 p3 p4 p5 : Int) (ph : Bool) (c0 c1 c2 c3 c4 c5 : Int) (R o cc : Nat) (hO : OwnB w B v xs) (hB : B ≤ w.heap.size) (hT : TabB w B R o cc) (hxs : xs.length ≤ 2097152) (hok : Ok5 p1 p2 p3 p4 p5 c1 c2 c3 c4 c5) (I : Int) (XS : List Int)
    (hI : nameI xs lb om hn (c1 - p1) (c2 - p2) (c3 - p3) (c4 - p4) = I) (hX : outM xs lb om hn (c1 - p1) (c2 - p2) (c3 - p3) (c4 - p4) (c5 - p5) = XS) (q5 : Option Addr) (M : Nat) (hK : OwnB w M (.slice q5 xs.length xs.length) xs) (hv : ∀ k, v.ownBlock = some k → k < M) :
    Calls Tryd.prog 19 #[v, .int .u8 lb, .agg (stV p0 p1 p2 p3 p4 p5 ph), .agg (stV c0 c1 c2 c3 c4 c5 hn), .bool om] w fun e w' => (∃ v', e = .returned (.tuple #[v', .agg #[.int .u32 I]]) ∧ OwnB w' B v' XS ∧ Bytes w' (.slice q5 xs.length xs.length) xs) ∧ Below B w w' ∧ Keep5 w w' := by
  have hby := hK.bytes
  rcases hK with ⟨hl, ⟨e, h0⟩ | ⟨g, cap, cur, e, hM, hg, hn1, hm, hs, ht⟩⟩
  · refine (zz19 w B v xs lb om hn p0 p1 p2 p3 p4 p5 ph c0 c1 c2 c3 c4 c5 R o cc hO hB hT hxs hok I XS (Lib.hid hI) (Lib.hid hX)).mono ?_
    rintro e1 w' ⟨⟨v', rfl, h1⟩, h2, h3⟩
    refine ⟨⟨v', rfl, h1, ?_⟩, h2, h3⟩
    have hx0 : xs = [] := List.eq_nil_of_length_eq_zero h0
    subst hx0
    exact ⟨q5, 0, rfl, by simp, fun i hi => absurd hi (by simp)⟩
  · obtain ⟨rfl, rfl⟩ : q5 = some ⟨g, 0, none⟩ ∧ xs.length = cap := by
      injection e with e1 e2 e3
      exact ⟨e1, e3⟩
    have hA : Away g cur xs.length w v := ⟨hg, by rw [hs]; omega, fun h => by have := hv g h; omega⟩
    refine (zzq19 g xs.length cur w B v xs lb om hn p0 p1 p2 p3 p4 p5 ph c0 c1 c2 c3 c4 c5 R o cc hO hB hT hA (Nat.le_refl _) hxs hok I XS (Lib.hid hI) (Lib.hid hX)).mono ?_
    rintro e1 w' ⟨⟨v', rfl, h1, hA'⟩, h2, h3⟩
    refine ⟨⟨v', rfl, h1, ?_⟩, h2, h3⟩
    obtain ⟨q, c, e2, hc, hi⟩ := hby
    refine ⟨q, c, e2, hc, fun i h => ?_⟩
    obtain ⟨a, ha, hcell⟩ := hi i h
    refine ⟨a, ha, ?_⟩
    have : q = some ⟨g, 0, none⟩ := by injection e2 with e3 _ _; exact e3.symm
    rw [this] at ha
    injection ha with ha
    subst ha
    rw [Addr.add_lit] at hcell ⊢
    simp only [World.cell?, hg] at hcell
    simp only [World.cell?, hA'.at_]
    exact hcell
set_option maxRecDepth 100000 in
set_option maxHeartbeats 8000000 in
theorem bytes_take {w : World} {p : Option Addr} {c n : Nat} {XS : List Int} (h : Bytes w (.slice p XS.length c) XS) (hn : n ≤ XS.length) : Bytes w (.slice p n c) (XS.take n) := by
  obtain ⟨q, c', e, hc, hi⟩ := h
  obtain ⟨rfl, rfl⟩ : p = q ∧ c = c' := by injection e with e1 _ e3; exact ⟨e1, e3⟩
  have hl : (XS.take n).length = n := by simp; omega
  refine ⟨p, c, by rw [hl], by rw [hl]; omega, fun i hi' => ?_⟩
  rw [hl] at hi'
  obtain ⟨a, ha, hcell⟩ := hi i (by omega)
  refine ⟨a, ha, ?_⟩
  rw [hcell]
  simp [List.getD, hi']
/-- the numbers that are written -/
def dsL (om hn : Bool) (d1 d2 d3 d4 d5 : Int) : List Int := d1 :: ((if om then [] else [d2, d3, d4]) ++ (if hn then [d5] else []))
def encs (ds : List Int) : List Int := ds.flatMap fun d => enc (zig d)
theorem outM_ds (xs : List Int) (lb : Int) (om hn : Bool) (d1 d2 d3 d4 d5 : Int) : outM xs lb om hn d1 d2 d3 d4 d5 = xs ++ cma lb ++ encs (dsL om hn d1 d2 d3 d4 d5) := by
  unfold outM outA encs dsL
  cases om <;> cases hn <;> simp
theorem encs_at (ds : List Int) (f : Nat) (h : f < ds.length) : encs ds = encs (ds.take f) ++ enc (zig (ds.getD f 0)) ++ encs (ds.drop (f + 1)) := by
  unfold encs
  have e : ds = ds.take f ++ ds.getD f 0 :: ds.drop (f + 1) := by
    have h1 : ds.getD f 0 = ds[f] := by simp [List.getD, h]
    rw [h1, List.getElem_cons_drop h, List.take_append_drop]
  conv => lhs; rw [e]
  simp
theorem encs_next (ds : List Int) (f : Nat) (h : f < ds.length) : encs (ds.take (f + 1)) = encs (ds.take f) ++ enc (zig (ds.getD f 0)) := by
  have h1 : ds.getD f 0 = ds[f] := by simp [List.getD, h]
  unfold encs
  rw [← List.take_append_getElem h, h1, List.flatMap_append]
  simp
theorem flp_nat (n : Nat) (h : n < 4294967296) : flp (n : Int) = ((4294967295 - n : Nat) : Int) := by
  show IntKind.u32.wrap ((BitVec.ofInt 32 IntKind.u32.max ^^^ BitVec.ofInt 32 (n : Int)).toNat : Int) = _
  have e : BitVec.ofInt 32 IntKind.u32.max = BitVec.allOnes 32 := by decide
  rw [e, BitVec.allOnes_xor, BitVec.toNat_not, BitVec.ofInt_natCast, BitVec.toNat_ofNat, Nat.mod_eq_of_lt (by omega), IntKind.wrap_u32]
  omega
theorem flp_back (n : Nat) (h : n ≤ 4194304) : flp (flp (n : Int)) = (n : Int) ∧ (flp (n : Int) != 0) = true := by
  have e := flp_nat n (by omega)
  rw [e, flp_nat _ (by omega)]
  constructor
  · omega
  · simp; omega
theorem want_cells {w : World} {k : Nat} {v0 v1 v2 v3 v4 : Int} (h : w.heap[k]? = some (Obj.cells #[.int .i64 v0, .int .i64 v1, .int .i64 v2, .int .i64 v3, .int .i64 v4] 58 (0, 0))) (f : Nat) (hf : f < 5) : w.cell? ⟨k, f, none⟩ = some (.int .i64 ([v0, v1, v2, v3, v4].getD f 0)) := by
  have : f = 0 ∨ f = 1 ∨ f = 2 ∨ f = 3 ∨ f = 4 := by omega
  rcases this with rfl | rfl | rfl | rfl | rfl <;> (simp only [World.cell?, h]; rfl)
theorem allB_mem {xs : List Int} (h : AllB xs) : ∀ x ∈ xs, 0 ≤ x ∧ x < 256 := by
  intro x hx
  obtain ⟨i, hi, rfl⟩ := List.getElem_of_mem hx
  have := h i hi
  simpa [List.getD, hi] using this
theorem out_bytes {xs : List Int} (h : AllB xs) (lb : Int) (ds : List Int) : ∀ x ∈ xs ++ cma lb ++ encs ds, 0 ≤ x ∧ x < 256 := by
  intro x hx
  rcases List.mem_append.1 hx with hx | hx
  · rcases List.mem_append.1 hx with hx | hx
    · exact allB_mem h x hx
    · unfold cma at hx
      split at hx
      · simp at hx
      · simp at hx; omega
  · unfold encs at hx
    obtain ⟨d, _, hd⟩ := List.mem_flatMap.1 hx
    exact encF_bytes 7 _ x hd
set_option maxRecDepth 100000 in
set_option maxHeartbeats 8000000 in
theorem FnAppendMappingEncodesDeltas_walk (a0 : Option Addr) (len0 cap0 : Nat) (z0 : List Int) (lb : Int) (p0 p1 p2 p3 p4 p5 : Int) (ph : Bool) (c0 c1 c2 c3 c4 c5 : Int) (ch : Bool) (om : Bool) (w : World) (hrow : IsRow .u8 w a0 len0 cap0 z0) (hT : Lib.TabSlice 0 .u8 b64 w) :
    Calls Tryd.prog 8 #[.slice a0 len0 cap0, .int .u8 lb, .agg (stV p0 p1 p2 p3 p4 p5 ph), .agg (stV c0 c1 c2 c3 c4 c5 ch), .bool om] w fun e w' => e = .returned (.bool true) ∧ Below w.heap.size w w' := by
  obtain ⟨R, o, cc, hTab⟩ := tab_in hT
  have HTB0 := Lib.hid (TabB.of hTab)
  clear hT
  obtain ⟨xs, hxs⟩ : ∃ xs, z0.take len0 = xs := ⟨_, rfl⟩
  obtain ⟨hby, hlen⟩ := hrow.bytes
  have hall := hrow.allB
  rw [hxs] at hby hlen hall
  clear hrow hxs
  obtain ⟨W0, hW0⟩ : ∃ W0, (w.alloc (Obj.cells (stV p0 p1 p2 p3 p4 p5 ph) 39)).alloc (Obj.cells (stV c0 c1 c2 c3 c4 c5 ch) 39) = W0 := ⟨_, rfl⟩
  have hb0 : Below w.heap.size w W0 := by rw [← hW0]; exact ((Below.refl _ _).alloc (Nat.le_refl _) _).alloc (by simp) _
  have HW0 := Lib.hid hW0; have KB := Lib.hid hb0
  have BP0 := Lib.hid (show Box W0 w.heap.size p0 p1 p2 p3 p4 p5 ph 39 by rw [← hW0]; exact (Box.new w _ _ _ _ _ _ _ _).alloc _)
  have BC0 := Lib.hid (show Box W0 (w.heap.size + 1) c0 c1 c2 c3 c4 c5 ch 39 by rw [← hW0]; have := (Box.new (w.alloc (Obj.cells (stV p0 p1 p2 p3 p4 p5 ph) 39)) c0 c1 c2 c3 c4 c5 ch 39); rwa [show (w.alloc (Obj.cells (stV p0 p1 p2 p3 p4 p5 ph) 39)).heap.size = w.heap.size + 1 by simp] at this)
  have HT0 := Lib.hid (hTab.keep hb0); have HY0 := Lib.hid (hby.keep hb0); have HL := Lib.hid hlen; have HA := Lib.hid hall
  clear hW0 hb0 hTab hby hlen hall
  go_enter Tryd.func8, Tryd.ntmps8
  go_wp2_with fail
  rw [HW0.out]
  refine (zb28 a0 len0 cap0 lb _ _ om W0).mono ?_
  rintro e w1 ⟨⟨b, rfl, hlb⟩, be1⟩
  have KB1 := Lib.hid (KB.out.trans (be1.mono KB.out.size))
  cases b
  · dsimp only
    go_wp2_with fail
    go_ret
    exact ⟨rfl, KB1.out⟩
  have hl0 := hlb rfl
  clear hlb
  have BP1 := Lib.hid (BP0.out.keep be1); have BC1 := Lib.hid (BC0.out.keep be1); have HT1 := Lib.hid (HT0.out.keep be1); have HY1 := Lib.hid (HY0.out.keep be1)
  clear BP0 BC0 HT0 HY0 KB HW0 be1
  have lt1 := BP1.out.lt; have lt2 := BC1.out.lt
  obtain ⟨y0, y1, y2, y3, y4, y5, y6⟩ := BP1.out.cells
  dsimp only
  go_wp2_with fail
  refine (ok17b p0 p1 p2 p3 p4 p5 ph w1).mono ?_
  rintro e w2 ⟨⟨b, rfl, hP⟩, be2⟩
  have KB2 := Lib.hid (KB1.out.trans (be2.mono KB1.out.size))
  cases b
  · dsimp only
    go_wp2_with fail
    go_ret
    exact ⟨rfl, KB2.out⟩
  have HP := Lib.hid (hP rfl); clear hP
  have BP2 := Lib.hid (BP1.out.keep be2); have BC2 := Lib.hid (BC1.out.keep be2); have HT2 := Lib.hid (HT1.out.keep be2); have HY2 := Lib.hid (HY1.out.keep be2)
  clear y0 y1 y2 y3 y4 y5 y6 BP1 BC1 HT1 HY1 KB1 be2 lt1 lt2
  have lt1 := BP2.out.lt; have lt2 := BC2.out.lt
  obtain ⟨y0, y1, y2, y3, y4, y5, y6⟩ := BC2.out.cells
  dsimp only
  go_wp2_with fail
  refine (ok17b c0 c1 c2 c3 c4 c5 ch w2).mono ?_
  rintro e w3 ⟨⟨b, rfl, hC⟩, be3⟩
  have KB3 := Lib.hid (KB2.out.trans (be3.mono KB2.out.size))
  cases b
  · dsimp only
    go_wp2_with fail
    go_ret
    exact ⟨rfl, KB3.out⟩
  have HC := Lib.hid (hC rfl); clear hC
  have BP3 := Lib.hid (BP2.out.keep be3); have BC3 := Lib.hid (BC2.out.keep be3); have HT3 := Lib.hid (HT2.out.keep be3); have HY3 := Lib.hid (HY2.out.keep be3)
  clear y0 y1 y2 y3 y4 y5 y6 BP2 BC2 HT2 HY2 KB2 be3 lt1 lt2
  dsimp only
  go_wp2_with fail
  refine (clone10 w3 a0 len0 cap0 xs HY3.out hl0).mono ?_
  rintro e w4 ⟨q4, rfl, O4, be4⟩
  have KB4 := Lib.hid (KB3.out.trans (be4.mono KB3.out.size)); have BP4 := Lib.hid (BP3.out.keep be4); have BC4 := Lib.hid (BC3.out.keep be4); have HT4 := Lib.hid (HT3.out.keep be4); have HO4 := Lib.hid (O4.mono KB3.out.size)
  clear O4 be4 BP3 BC3 HT3 HY3 KB3
  dsimp only
  go_wp2_with fail
  refine (clone10 w4 q4 len0 len0 xs HO4.out.bytes hl0).mono ?_
  rintro e w5 ⟨q5, rfl, O5, be5⟩
  have KB5 := Lib.hid (KB4.out.trans (be5.mono KB4.out.size)); have BP5 := Lib.hid (BP4.out.keep be5); have BC5 := Lib.hid (BC4.out.keep be5); have HT5 := Lib.hid (HT4.out.keep be5); have HO5 := Lib.hid (HO4.out.keep be5); have HK5 := Lib.hid O5
  have HV5 := Lib.hid (show ∀ k, (Value.slice q4 len0 len0).ownBlock = some k → k < w4.heap.size from fun k hk => (World.ownsRow.lt HO4.out k hk).2)
  have lt1 := BP5.out.lt; have lt2 := BC5.out.lt
  clear O5 be5 BP4 BC4 HT4 HO4 KB4
  dsimp only
  obtain ⟨I, hI⟩ : ∃ I, nameI xs lb om ch (c1 - p1) (c2 - p2) (c3 - p3) (c4 - p4) = I := ⟨_, rfl⟩
  obtain ⟨XS, hX⟩ : ∃ XS, outM xs lb om ch (c1 - p1) (c2 - p2) (c3 - p3) (c4 - p4) (c5 - p5) = XS := ⟨_, rfl⟩
  have HI := Lib.hid hI; have HX := Lib.hid hX
  clear hI hX
  have HTB := Lib.hid (show R < w.heap.size ∧ 0 < w.heap.size from ⟨HTB0.out.r, HTB0.out.z⟩)
  have HK5' := Lib.hid (show OwnB w5 w4.heap.size (.slice q5 xs.length xs.length) xs by rw [HL.out]; exact HK5.out)
  go_upto_region 9 with fail
  go_cut [12, 13] (fun ov op wx => ∃ KF, op = .pointer (some ⟨KF, 0, none⟩) ∧ Hid (Aft w wx KF ov I XS xs q5 len0 R o cc p0 p1 p2 p3 p4 p5 ph c0 c1 c2 c3 c4 c5 ch))
  case first =>
    as_aux_lemma =>
      go_region_held3 (fun w' => (w'.cell? ⟨w.heap.size, 0, none⟩ = some (.int .i64 p0) ∧ w'.cell? ⟨w.heap.size, 1, none⟩ = some (.int .i64 p1) ∧ w'.cell? ⟨w.heap.size, 2, none⟩ = some (.int .i64 p2) ∧ w'.cell? ⟨w.heap.size, 3, none⟩ = some (.int .i64 p3) ∧ w'.cell? ⟨w.heap.size, 4, none⟩ = some (.int .i64 p4) ∧ w'.cell? ⟨w.heap.size, 5, none⟩ = some (.int .i64 p5) ∧ w'.cell? ⟨w.heap.size, 6, none⟩ = some (.bool ph)) ∧ (w'.cell? ⟨w.heap.size + 1, 0, none⟩ = some (.int .i64 c0) ∧ w'.cell? ⟨w.heap.size + 1, 1, none⟩ = some (.int .i64 c1) ∧ w'.cell? ⟨w.heap.size + 1, 2, none⟩ = some (.int .i64 c2) ∧ w'.cell? ⟨w.heap.size + 1, 3, none⟩ = some (.int .i64 c3) ∧ w'.cell? ⟨w.heap.size + 1, 4, none⟩ = some (.int .i64 c4) ∧ w'.cell? ⟨w.heap.size + 1, 5, none⟩ = some (.int .i64 c5) ∧ w'.cell? ⟨w.heap.size + 1, 6, none⟩ = some (.bool ch)) ∧ Box w' w.heap.size p0 p1 p2 p3 p4 p5 ph 39 ∧ Box w' (w.heap.size + 1) c0 c1 c2 c3 c4 c5 ch 39)
        (first | exact S19_of ⟨BP5.out.at_⟩ ⟨BC5.out.at_⟩ | exact S19_of ⟨(BP5.out.alloc _).at_⟩ ⟨(BC5.out.alloc _).at_⟩ | exact S19_of bp7 bc7 | exact S19_of (bp7.alloc _) (bc7.alloc _) | exact S19_of (bp7.set hx7 _) (bc7.set hx7 _) | (go_split_ands; exact S19_of (Box.keep ‹Box _ w.heap.size p0 p1 p2 p3 p4 p5 ph 39› bec) (Box.keep ‹Box _ (w.heap.size + 1) c0 c1 c2 c3 c4 c5 ch 39› bec)) | (go_split_ands; exact S19_of (Box.keep ‹Box _ w.heap.size p0 p1 p2 p3 p4 p5 ph 39› bep) (Box.keep ‹Box _ (w.heap.size + 1) c0 c1 c2 c3 c4 c5 ch 39› bep)) | (go_split_ands; exact S19_of (Box.alloc ‹Box _ w.heap.size p0 p1 p2 p3 p4 p5 ph 39› _) (Box.alloc ‹Box _ (w.heap.size + 1) c0 c1 c2 c3 c4 c5 ch 39› _)) | fail)
        (first | (go_at_call 18; (fail_if_success have hh := bep); refine (sm18 _ _ _ _ _ _ _ _).mono ?_; rintro e wp ⟨rfl, bep⟩; have b1 : Below w5.heap.size w5 wp := (by first | exact (Below.refl _ _).drew.trans bep | exact (((Below.refl _ _).alloc (Nat.le_refl _) _).drew).trans (bep.mono (by simp)) | fail)) | (go_at_call 18; refine (sm18 _ _ _ _ _ _ _ _).mono ?_; rintro e wc ⟨rfl, bec⟩; have b2 : Below w5.heap.size w5 wc := (by first | exact b1.trans (bec.mono b1.size) | exact (b1.alloc b1.size _).trans (bec.mono (by have := b1.size; simp; omega)) | fail)) | (go_at_call 19; go_split_ands; have b3 := b2; refine (zzU _ w.heap.size (.slice q4 len0 len0) xs lb om ch p0 p1 p2 p3 p4 p5 ph c0 c1 c2 c3 c4 c5 R o cc (HO5.out.keep b3) (Nat.le_trans KB5.out.size b3.size) (tabB_of HT5.out KB5.out b3 HTB.out) (by rw [HL.out]; omega) (ok5_28 HP.out HC.out) I XS HI.out HX.out q5 w4.heap.size (OwnB.keep HK5'.out b3) HV5.out).mono ?_; rintro e w7 ⟨⟨v8, rfl, o8, y8⟩, be7, k7⟩; have bp7 : Box w7 w.heap.size p0 p1 p2 p3 p4 p5 ph 39 := ⟨k7 _ _ _ _ (by decide) (Box.at_ ‹Box _ w.heap.size p0 p1 p2 p3 p4 p5 ph 39›)⟩; have bc7 : Box w7 (w.heap.size + 1) c0 c1 c2 c3 c4 c5 ch 39 := ⟨k7 _ _ _ _ (by decide) (Box.at_ ‹Box _ (w.heap.size + 1) c0 c1 c2 c3 c4 c5 ch 39›)⟩; have kb7 : Below w.heap.size w w7 := (KB5.out.trans (b3.mono KB5.out.size)).trans be7; have tb7 := (tabB_of HT5.out KB5.out b3 HTB.out).below be7; rw [HL.out] at y8; (try (have hx7 : w7.heap[wc.heap.size]? = some (Obj.cells #[Value.int IntKind.u32 0] 45 (0, 0)) := k7 _ _ _ _ (by decide) (heap_alloc_new wc _); obtain ⟨r1, r2⟩ := ixc hx7)); (try (have hx7 : w7.heap[wp.heap.size]? = some (Obj.cells #[Value.int IntKind.u32 0] 45 (0, 0)) := k7 _ _ _ _ (by decide) ((bec.block _ (by simp)).trans (heap_alloc_new wp _)); obtain ⟨r1, r2⟩ := ixc hx7)); (try (have hx7 : w7.heap[w5.heap.size]? = some (Obj.cells #[Value.int IntKind.u32 0] 45 (0, 0)) := k7 _ _ _ _ (by decide) ((bec.block _ (Array.getElem?_eq_some_iff.1 ((bep.block _ (by simp)).trans (heap_alloc_new w5 _))).1).trans ((bep.block _ (by simp)).trans (heap_alloc_new w5 _))); obtain ⟨r1, r2⟩ := ixc hx7))) | (go_at_call 19; go_split_ands; have b3 := b2.alloc b2.size (Obj.cells #[Value.int IntKind.u32 0] 45); refine (zzU _ w.heap.size (.slice q4 len0 len0) xs lb om ch p0 p1 p2 p3 p4 p5 ph c0 c1 c2 c3 c4 c5 R o cc (HO5.out.keep b3) (Nat.le_trans KB5.out.size b3.size) (tabB_of HT5.out KB5.out b3 HTB.out) (by rw [HL.out]; omega) (ok5_28 HP.out HC.out) I XS HI.out HX.out q5 w4.heap.size (OwnB.keep HK5'.out b3) HV5.out).mono ?_; rintro e w7 ⟨⟨v8, rfl, o8, y8⟩, be7, k7⟩; have bp7 : Box w7 w.heap.size p0 p1 p2 p3 p4 p5 ph 39 := ⟨k7 _ _ _ _ (by decide) (Box.at_ ‹Box _ w.heap.size p0 p1 p2 p3 p4 p5 ph 39›)⟩; have bc7 : Box w7 (w.heap.size + 1) c0 c1 c2 c3 c4 c5 ch 39 := ⟨k7 _ _ _ _ (by decide) (Box.at_ ‹Box _ (w.heap.size + 1) c0 c1 c2 c3 c4 c5 ch 39›)⟩; have kb7 : Below w.heap.size w w7 := (KB5.out.trans (b3.mono KB5.out.size)).trans be7; have tb7 := (tabB_of HT5.out KB5.out b3 HTB.out).below be7; rw [HL.out] at y8; (try (have hx7 : w7.heap[wc.heap.size]? = some (Obj.cells #[Value.int IntKind.u32 0] 45 (0, 0)) := k7 _ _ _ _ (by decide) (heap_alloc_new wc _); obtain ⟨r1, r2⟩ := ixc hx7)); (try (have hx7 : w7.heap[wp.heap.size]? = some (Obj.cells #[Value.int IntKind.u32 0] 45 (0, 0)) := k7 _ _ _ _ (by decide) ((bec.block _ (by simp)).trans (heap_alloc_new wp _)); obtain ⟨r1, r2⟩ := ixc hx7)); (try (have hx7 : w7.heap[w5.heap.size]? = some (Obj.cells #[Value.int IntKind.u32 0] 45 (0, 0)) := k7 _ _ _ _ (by decide) ((bec.block _ (Array.getElem?_eq_some_iff.1 ((bep.block _ (by simp)).trans (heap_alloc_new w5 _))).1).trans ((bep.block _ (by simp)).trans (heap_alloc_new w5 _))); obtain ⟨r1, r2⟩ := ixc hx7))))
      all_goals
        go_wp2_with fail
        go_meet
      all_goals first
        | exact ⟨_, rfl, Lib.hid (aft_alloc o8 y8 bp7 bc7 tb7 kb7)⟩
        | exact ⟨_, rfl, Lib.hid (aft_set o8 y8 bp7 bc7 tb7 kb7 hx7 (Nat.le_trans KB5.out.size b2.size))⟩
        | exact ⟨_, rfl, Lib.hid (aft_set o8 y8 bp7 bc7 tb7 kb7 hx7 (Nat.le_trans KB5.out.size b1.size))⟩
        | exact ⟨_, rfl, Lib.hid (aft_set o8 y8 bp7 bc7 tb7 kb7 hx7 KB5.out.size)⟩
        | trace_state
  case rest =>
    obtain ⟨KF, rfl, HAF⟩ := hcut
    obtain ⟨pp, cx, hv, hcx, hjunk⟩ := HAF.out.own.bytes
    subst hv
    obtain ⟨pa, rfl, _⟩ := hjunk 0 (by rw [← HX.out, outM_ds]; have : 1 ≤ (enc (zig (c1 - p1))).length := encF_pos 6 _; simp [encs, dsL]; omega)
    clear hjunk
    have HYO := Lib.hid HAF.out.own.bytes
    obtain ⟨NX, hNX⟩ : ∃ NX, XS.length = NX := ⟨_, rfl⟩
    have hge : len0 ≤ NX := by rw [← hNX, ← HX.out, outM_ds, ← HL.out]; simp
    have HTK := Lib.hid (show XS.take len0 = xs by rw [← HX.out, outM_ds, ← HL.out, List.append_assoc]; simp)
    have HSB := Lib.hid (show Bytes wc (.slice (some pa) len0 cx) xs by have := bytes_take HYO.out (n := len0) (by omega); rwa [HTK.out] at this)
    have hNXb : NX ≤ 1048640 := by
      rw [← hNX, ← HX.out]
      have h1 := enc_le (zig (c1 - p1)); have h2 := enc_le (zig (c2 - p2)); have h3 := enc_le (zig (c3 - p3)); have h4 := enc_le (zig (c4 - p4)); have h5 := enc_le (zig (c5 - p5))
      have hc : (cma lb).length ≤ 1 := by unfold cma; split <;> simp
      have hll := HL.out
      unfold outM outA
      cases om <;> cases ch <;> simp <;> omega
    rw [hNX] at hcx
    rw [hNX]
    have HNX := Lib.hid hNX
    clear hNX
    have gd : decide ((NX : Int) < (len0 : Int)) = false := by simp; omega
    clear BP5 BC5 HT5 HO5 HK5 HV5 lt1 lt2 HK5' KB5
    go_wp2_with fail
    refine (same20 wc _ _ xs xs HSB.out HAF.out.keep (by rw [HL.out]; omega) (by rw [HL.out]; omega)).mono ?_
    rintro e wd ⟨⟨b, rfl, hb⟩, nd, rfl⟩
    obtain rfl := hb.2 rfl
    clear hb
    dsimp only
    obtain ⟨PC, hPC⟩ : ∃ PC, len0 + (cma lb).length = PC := ⟨_, rfl⟩
    have HPC := Lib.hid hPC
    have hPCb : PC ≤ 1048640 := by rw [← hPC]; have hc : (cma lb).length ≤ 1 := (by unfold cma; split <;> simp); omega
    clear hPC
    obtain ⟨BB, hBB⟩ : ∃ BB : Bool, decide (lb ≠ 0 ∧ lb ≠ 59 ∧ lb ≠ 34) = BB := ⟨_, rfl⟩
    have HBB := Lib.hid hBB
    clear hBB
    go_upto_region 13 with fail
    go_cut [80] (fun bv wx => bv = .bool BB ∧ wx = wc.drewN nd)
    case first =>
      as_aux_lemma =>
        by_cases h0 : lb = 0
        · have k0 : (lb != 0) = false := by simp [h0]
          have hp : BB = false := by rw [← HBB.out]; simp [h0]
          clear h0
          go_wp2_with fail
          go_meet
          exact ⟨by rw [hp], rfl⟩
        have k0 : (lb != 0) = true := by simp [h0]
        by_cases h1 : lb = 59
        · have k1 : (lb != 59) = false := by simp [h1]
          have hp : BB = false := by rw [← HBB.out]; simp [h1]
          clear h0 h1
          go_wp2_with fail
          go_meet
          exact ⟨by rw [hp], rfl⟩
        have k1 : (lb != 59) = true := by simp [h1]
        by_cases h2 : lb = 34
        · have k2 : (lb != 34) = false := by simp [h2]
          have hp : BB = false := by rw [← HBB.out]; simp [h2]
          clear h0 h1 h2
          go_wp2_with fail
          go_meet
          exact ⟨by rw [hp], rfl⟩
        have k2 : (lb != 34) = true := by simp [h2]
        have hp : BB = true := by rw [← HBB.out]; simp [h0, h1, h2]
        clear h0 h1 h2
        go_wp2_with fail
        go_meet
        exact ⟨by rw [hp], rfl⟩
    case rest =>
      obtain ⟨rfl, rfl⟩ := hcut
      go_upto_if 80 with fail
      go_cut [14] (fun pv wx => pv = .int .i64 (PC : Nat) ∧ wx = wc.drewN nd)
      case first =>
        as_aux_lemma =>
          cases BB
          · have hcm : cma lb = [] := by
              have h := HBB.out
              simp only [decide_eq_false_iff_not] at h
              unfold cma
              rw [if_pos (by omega)]
            have hp : len0 = PC := by rw [← HPC.out, hcm]; simp
            clear hcm
            go_wp2_with fail
            go_meet
            exact ⟨by rw [hp], rfl⟩
          · have h := HBB.out
            simp only [decide_eq_true_eq] at h
            have hcm := cmax lb h.1 h.2.1 h.2.2
            have hp : len0 + 1 = PC := by rw [← HPC.out, hcm]; simp
            have hlt : len0 < NX := by rw [← HNX.out, ← HX.out, outM_ds, hcm, ← HL.out]; simp
            have hcell : wc.cell? (pa.add len0) = some (.int .u8 44) := by
              obtain ⟨q, c', e, hc, hi⟩ := HYO.out
              obtain ⟨a, ha, hcl⟩ := hi len0 (by rw [HNX.out]; exact hlt)
              have : q = some pa := by injection e with e1 _ _; exact e1.symm
              rw [this] at ha
              injection ha with ha
              subst ha
              rw [hcl, ← HX.out, outM_ds, hcm, ← HL.out]
              simp [List.getD]
            clear h hcm
            have gq : decide (NX ≤ len0) = false := by simp; omega
            go_wp2_with fail
            go_meet
            exact ⟨by simp; omega, rfl⟩
      case rest =>
        obtain ⟨rfl, rfl⟩ := hcut
        obtain ⟨wL, hwL⟩ : ∃ wL, wc.drewN nd = wL := ⟨_, rfl⟩
        have hbL : Below wc.heap.size wc wL := by rw [← hwL]; exact below_drewN _ _ _
        have KBL := Lib.hid (HAF.out.bel.trans (hbL.mono HAF.out.bel.size)); have BPL := Lib.hid (HAF.out.bp.keep hbL); have BCL := Lib.hid (HAF.out.bc.keep hbL); have HTL := Lib.hid (HAF.out.tab.keep hbL)
        have HXL := Lib.hid ((hbL.block KF (Array.getElem?_eq_some_iff.1 HAF.out.off).1).trans HAF.out.off); have HYL := Lib.hid (HYO.out.keep hbL)
        rw [hwL]
        clear HAF HYO HSB HTK hbL hwL gd HTB HTB0
        have lt1 := BPL.out.lt; have lt2 := BCL.out.lt
        have ltK : KF < wL.heap.size := (Array.getElem?_eq_some_iff.1 HXL.out).1
        obtain ⟨y0, y1, y2, y3, y4, y5, y6⟩ := BPL.out.cells
        obtain ⟨z0', z1, z2, z3, z4, z5, z6⟩ := BCL.out.cells
        obtain ⟨⟨a1, b1⟩, ⟨a2, b2⟩, ⟨a3, b3⟩, ⟨a4, b4⟩, ⟨a5, b5⟩⟩ := ok5_28 HP.out HC.out
        obtain ⟨d1, e1⟩ : ∃ d, c1 - p1 = d := ⟨_, rfl⟩
        obtain ⟨d2, e2⟩ : ∃ d, c2 - p2 = d := ⟨_, rfl⟩
        obtain ⟨d3, e3⟩ : ∃ d, c3 - p3 = d := ⟨_, rfl⟩
        obtain ⟨d4, e4⟩ : ∃ d, c4 - p4 = d := ⟨_, rfl⟩
        obtain ⟨d5, e5⟩ : ∃ d, c5 - p5 = d := ⟨_, rfl⟩
        rw [e1, e2, e3, e4] at HI
        rw [e1, e2, e3, e4, e5] at HX
        rw [e1] at a1 b1; rw [e2] at a2 b2; rw [e3] at a3 b3; rw [e4] at a4 b4; rw [e5] at a5 b5
        clear y0 y6 z0'
        cases om
        · cases ch
          · as_aux_lemma =>
              go_wp2_with fail
              obtain ⟨wM, hwM⟩ : ∃ wM, wL.alloc (Obj.cells #[Value.int IntKind.i64 d1, Value.int IntKind.i64 d2, Value.int IntKind.i64 d3, Value.int IntKind.i64 d4, Value.int IntKind.i64 0] 58) = wM := ⟨_, rfl⟩
              have hbM : Below wL.heap.size wL wM := by rw [← hwM]; exact (Below.refl _ _).alloc (Nat.le_refl _) _
              have HWM := Lib.hid (show wM.heap[wL.heap.size]? = some (Obj.cells #[Value.int IntKind.i64 d1, Value.int IntKind.i64 d2, Value.int IntKind.i64 d3, Value.int IntKind.i64 d4, Value.int IntKind.i64 0] 58 (0, 0)) by rw [← hwM]; exact heap_alloc_new _ _)
              have KBM := Lib.hid (KBL.out.trans (hbM.mono KBL.out.size)); have HTM := Lib.hid (HTL.out.keep hbM); have HXM := Lib.hid ((hbM.block KF ltK).trans HXL.out); have HYM := Lib.hid (HYL.out.keep hbM)
              rw [hwM]
              clear hwM hbM KBL BPL BCL HTL HXL HYL lt1 lt2 ltK y1 y2 y3 y4 y5 z1 z2 z3 z4 z5 z6 e1 e2 e3 e4 e5
              have HDS := Lib.hid (show xs ++ cma lb ++ encs [d1, d2, d3, d4] = XS by rw [← HX.out, outM_ds]; rfl)
              have HR := Lib.hid (show ∀ f, f < 4 → -1073741824 ≤ ([d1, d2, d3, d4] : List Int).getD f 0 ∧ ([d1, d2, d3, d4] : List Int).getD f 0 ≤ 1073741824 by
                intro f hf
                have : f = 0 ∨ f = 1 ∨ f = 2 ∨ f = 3 := by omega
                rcases this with rfl | rfl | rfl | rfl <;> first | exact ⟨a1, b1⟩ | exact ⟨a2, b2⟩ | exact ⟨a3, b3⟩ | exact ⟨a4, b4⟩ | exact ⟨a5, b5⟩)
              have HF5 := Lib.hid (show ∀ f, f < 4 → ([d1, d2, d3, d4, 0] : List Int).getD f 0 = ([d1, d2, d3, d4] : List Int).getD f 0 by
                intro f hf
                have : f = 0 ∨ f = 1 ∨ f = 2 ∨ f = 3 := by omega
                rcases this with rfl | rfl | rfl | rfl <;> rfl)
              have hI0 : I = 0 := by rw [← HI.out]; unfold nameI; simp
              subst hI0
              have hv : ((0 : Int) != 0) = false := rfl
              clear a1 b1 a2 b2 a3 b3 a4 b4 a5 b5 HI
              go_loopw [14, 18] (fun pv fv w' => ∃ f P : Nat, fv = .int .i64 f ∧ pv = .int .i64 P ∧ f ≤ 4 ∧ Hid (P = PC + (encs (([d1, d2, d3, d4] : List Int).take f)).length) ∧ P ≤ 1048640 ∧ Hid (Below wM.heap.size wM w')) (fun pv fv w' => 4 - (intOf fv).toNat)
              case atStart => exact ⟨0, PC, rfl, rfl, by omega, Lib.hid (by simp [encs]), hPCb, Lib.hid (Below.refl _ _)⟩
              case round =>
                obtain ⟨f, P, rfl, rfl, hfk, HPf, hPb, KBr⟩ := hrel
                have ltk : KF < wr.heap.size := Nat.lt_of_lt_of_le (Array.getElem?_eq_some_iff.1 HXM.out).1 KBr.out.size
                have rk : wr.heap[KF]? = some (Obj.cells #[Value.int IntKind.u32 0] 45 (0, 0)) := (KBr.out.block KF (Array.getElem?_eq_some_iff.1 HXM.out).1).trans HXM.out
                obtain ⟨r1, r2⟩ := ixc rk
                have HRK := Lib.hid rk
                clear rk
                by_cases hlt : f < 4
                · obtain ⟨d, hd⟩ : ∃ d, ([d1, d2, d3, d4] : List Int).getD f 0 = d := ⟨_, rfl⟩
                  obtain ⟨g1, g2⟩ := HR.out f hlt
                  rw [hd] at g1 g2
                  obtain ⟨L, hL⟩ : ∃ L, (enc (zig d)).length = L := ⟨_, rfl⟩
                  have hL7 : L ≤ 7 := by rw [← hL]; exact enc_le _
                  have hw : wr.cell? ⟨wL.heap.size, f, none⟩ = some (.int .i64 d) := by
                    have h := want_cells ((KBr.out.block _ (Array.getElem?_eq_some_iff.1 HWM.out).1).trans HWM.out) f (by omega)
                    rw [h, HF5.out f hlt, hd]
                  have ltw : wL.heap.size < wr.heap.size := Nat.lt_of_lt_of_le (Array.getElem?_eq_some_iff.1 HWM.out).1 KBr.out.size
                  have hsp : XS = (xs ++ cma lb ++ encs (([d1, d2, d3, d4] : List Int).take f)) ++ enc (zig d) ++ encs (([d1, d2, d3, d4] : List Int).drop (f + 1)) := by
                    rw [← HDS.out, encs_at [d1, d2, d3, d4] f (by simpa using hlt), hd]; simp only [List.append_assoc]
                  have hPl : (xs ++ cma lb ++ encs (([d1, d2, d3, d4] : List Int).take f)).length = P := by
                    rw [HPf.out, ← HPC.out, ← HL.out]; simp only [List.length_append]
                  obtain ⟨E, hE⟩ : ∃ E, P + L = E := ⟨_, rfl⟩
                  have hgood : Good XS P E := by
                    have := good_back (xs ++ cma lb ++ encs (([d1, d2, d3, d4] : List Int).take f)) (encs (([d1, d2, d3, d4] : List Int).drop (f + 1))) d g1 g2
                    rw [← hsp, hPl, hL, hE] at this; exact this
                  have hval : sgn (val XS P (E - P)) = d := by
                    have := (read_back (xs ++ cma lb ++ encs (([d1, d2, d3, d4] : List Int).take f)) (encs (([d1, d2, d3, d4] : List Int).drop (f + 1))) d g1 g2).2
                    rw [← hsp, hPl, hL] at this
                    rw [← hE, Nat.add_sub_cancel_left]; exact this
                  have HPn := Lib.hid (show E = PC + (encs (([d1, d2, d3, d4] : List Int).take (f + 1))).length by
                    rw [encs_next [d1, d2, d3, d4] f (by simpa using hlt), hd, List.length_append, hL, ← hE, HPf.out]; omega)
                  have hEN : E ≤ NX := by
                    rw [← HNX.out, hsp, List.length_append, List.length_append, hPl, hL]; omega
                  have hEP : (E : Int) - (P : Int) = (L : Int) := by omega
                  have hEb : E ≤ 1048640 := by omega
                  have HZ := Lib.hid (fun (W : World) (hB : Bytes W (.slice (some pa) NX cx) XS) (hT : Tab W R o cc) => zd29 W (some pa) NX cx XS P E d hB (by rw [← HDS.out]; exact out_bytes HA.out lb _) (by omega) R o cc hT hgood (by omega) hval)
                  have HV := Lib.hid (show ∀ W, Calls Tryd.prog 30 #[.int .i64 d] W fun e w' => e = .returned (.int .i64 (L : Nat)) ∧ W = w' from fun W => by have := vl30 d g1 g2 W; rw [hL] at this; exact this)
                  have HYM' := Lib.hid (show Bytes wM (.slice (some pa) NX cx) XS by have := HYM.out; rwa [HNX.out] at this)
                  clear hd hL hsp hPl hE hgood hval g1 g2 hEN
                  have hnb : ((f : Int) == -1) = false := by rw [beq_eq_false_iff_ne]; omega
                  go_wp2_with fail
                  refine (HZ.out _ (HYM'.out.keep KBr.out) (HTM.out.keep KBr.out)).mono ?_
                  rintro e wz ⟨rfl, nz, rfl⟩
                  dsimp only
                  go_wp2_with fail
                  refine (HV.out _).mono ?_
                  rintro e wz ⟨rfl, rfl⟩
                  dsimp only
                  go_wp2_with fail
                  go_roundw
                  case rel => exact ⟨f + 1, E, by simp, by trivial, by omega, HPn, hEb, Lib.hid (KBr.out.trans (below_drewN _ _ _))⟩
                  case measure => simp only [intOf]; omega
                · obtain rfl : f = 4 := by omega
                  have hfin : ((P : Int) == (NX : Int)) = true := by
                    have h1 := HPf.out
                    have h2 := HNX.out
                    rw [← HDS.out] at h2
                    simp only [List.length_append] at h2
                    have h3 := HPC.out; have h4 := HL.out
                    have h5 : ([d1, d2, d3, d4] : List Int).take 4 = [d1, d2, d3, d4] := rfl
                    rw [h5] at h1
                    simp; omega
                  go_wp2_with fail
                  refine (iv21 _ _).mono ?_
                  rw [hv]
                  rintro e wy ⟨rfl, bey⟩
                  have KBy := Lib.hid (KBr.out.trans (bey.mono KBr.out.size))
                  clear bey
                  dsimp only
                  go_wp2_with fail
                  go_ret
                  first | exact ⟨rfl, KBM.out.trans (KBy.out.mono KBM.out.size)⟩ | exact ⟨ret_bool hfin, KBM.out.trans (KBy.out.mono KBM.out.size)⟩
          · as_aux_lemma =>
              go_wp2_with fail
              obtain ⟨wM, hwM⟩ : ∃ wM, wL.alloc (Obj.cells #[Value.int IntKind.i64 d1, Value.int IntKind.i64 d2, Value.int IntKind.i64 d3, Value.int IntKind.i64 d4, Value.int IntKind.i64 d5] 58) = wM := ⟨_, rfl⟩
              have hbM : Below wL.heap.size wL wM := by rw [← hwM]; exact (Below.refl _ _).alloc (Nat.le_refl _) _
              have HWM := Lib.hid (show wM.heap[wL.heap.size]? = some (Obj.cells #[Value.int IntKind.i64 d1, Value.int IntKind.i64 d2, Value.int IntKind.i64 d3, Value.int IntKind.i64 d4, Value.int IntKind.i64 d5] 58 (0, 0)) by rw [← hwM]; exact heap_alloc_new _ _)
              have KBM := Lib.hid (KBL.out.trans (hbM.mono KBL.out.size)); have HTM := Lib.hid (HTL.out.keep hbM); have HXM := Lib.hid ((hbM.block KF ltK).trans HXL.out); have HYM := Lib.hid (HYL.out.keep hbM)
              rw [hwM]
              clear hwM hbM KBL BPL BCL HTL HXL HYL lt1 lt2 ltK y1 y2 y3 y4 y5 z1 z2 z3 z4 z5 z6 e1 e2 e3 e4 e5
              have HDS := Lib.hid (show xs ++ cma lb ++ encs [d1, d2, d3, d4, d5] = XS by rw [← HX.out, outM_ds]; rfl)
              have HR := Lib.hid (show ∀ f, f < 5 → -1073741824 ≤ ([d1, d2, d3, d4, d5] : List Int).getD f 0 ∧ ([d1, d2, d3, d4, d5] : List Int).getD f 0 ≤ 1073741824 by
                intro f hf
                have : f = 0 ∨ f = 1 ∨ f = 2 ∨ f = 3 ∨ f = 4 := by omega
                rcases this with rfl | rfl | rfl | rfl | rfl <;> first | exact ⟨a1, b1⟩ | exact ⟨a2, b2⟩ | exact ⟨a3, b3⟩ | exact ⟨a4, b4⟩ | exact ⟨a5, b5⟩)
              have HF5 := Lib.hid (show ∀ f, f < 5 → ([d1, d2, d3, d4, d5] : List Int).getD f 0 = ([d1, d2, d3, d4, d5] : List Int).getD f 0 by
                intro f hf
                have : f = 0 ∨ f = 1 ∨ f = 2 ∨ f = 3 ∨ f = 4 := by omega
                rcases this with rfl | rfl | rfl | rfl | rfl <;> rfl)
              have HIN := Lib.hid (show flp I = ((PC + (encs (([d1, d2, d3, d4, d5] : List Int).take 4)).length : Nat) : Int) ∧ (I != 0) = true by
                have hb : (xs ++ cma lb ++ encs (([d1, d2, d3, d4, d5] : List Int).take 4)).length ≤ 4194304 := by
                  have h1 := HNX.out
                  rw [← HDS.out, encs_at [d1, d2, d3, d4, d5] 4 (by simp)] at h1
                  simp only [List.length_append] at h1 ⊢
                  omega
                have hI := HI.out
                have e : outA xs lb false d1 d2 d3 d4 = xs ++ cma lb ++ encs (([d1, d2, d3, d4, d5] : List Int).take 4) := by unfold outA encs; simp
                unfold nameI at hI
                rw [if_pos rfl, e] at hI
                obtain ⟨f1, f2⟩ := flp_back _ hb
                rw [hI] at f1 f2
                refine ⟨?_, f2⟩
                rw [f1, ← HPC.out, ← HL.out]
                simp only [List.length_append])
              have hv : (I != 0) = true := HIN.out.2
              clear a1 b1 a2 b2 a3 b3 a4 b4 a5 b5 HI
              go_loopw [14, 18] (fun pv fv w' => ∃ f P : Nat, fv = .int .i64 f ∧ pv = .int .i64 P ∧ f ≤ 5 ∧ Hid (P = PC + (encs (([d1, d2, d3, d4, d5] : List Int).take f)).length) ∧ P ≤ 1048640 ∧ Hid (Below wM.heap.size wM w')) (fun pv fv w' => 5 - (intOf fv).toNat)
              case atStart => exact ⟨0, PC, rfl, rfl, by omega, Lib.hid (by simp [encs]), hPCb, Lib.hid (Below.refl _ _)⟩
              case round =>
                obtain ⟨f, P, rfl, rfl, hfk, HPf, hPb, KBr⟩ := hrel
                have ltk : KF < wr.heap.size := Nat.lt_of_lt_of_le (Array.getElem?_eq_some_iff.1 HXM.out).1 KBr.out.size
                have rk : wr.heap[KF]? = some (Obj.cells #[Value.int IntKind.u32 I] 45 (0, 0)) := (KBr.out.block KF (Array.getElem?_eq_some_iff.1 HXM.out).1).trans HXM.out
                obtain ⟨r1, r2⟩ := ixc rk
                have HRK := Lib.hid rk
                clear rk
                by_cases hlt : f < 5
                · obtain ⟨d, hd⟩ : ∃ d, ([d1, d2, d3, d4, d5] : List Int).getD f 0 = d := ⟨_, rfl⟩
                  obtain ⟨g1, g2⟩ := HR.out f hlt
                  rw [hd] at g1 g2
                  obtain ⟨L, hL⟩ : ∃ L, (enc (zig d)).length = L := ⟨_, rfl⟩
                  have hL7 : L ≤ 7 := by rw [← hL]; exact enc_le _
                  have hw : wr.cell? ⟨wL.heap.size, f, none⟩ = some (.int .i64 d) := by
                    have h := want_cells ((KBr.out.block _ (Array.getElem?_eq_some_iff.1 HWM.out).1).trans HWM.out) f (by omega)
                    rw [h, HF5.out f hlt, hd]
                  have ltw : wL.heap.size < wr.heap.size := Nat.lt_of_lt_of_le (Array.getElem?_eq_some_iff.1 HWM.out).1 KBr.out.size
                  have hsp : XS = (xs ++ cma lb ++ encs (([d1, d2, d3, d4, d5] : List Int).take f)) ++ enc (zig d) ++ encs (([d1, d2, d3, d4, d5] : List Int).drop (f + 1)) := by
                    rw [← HDS.out, encs_at [d1, d2, d3, d4, d5] f (by simpa using hlt), hd]; simp only [List.append_assoc]
                  have hPl : (xs ++ cma lb ++ encs (([d1, d2, d3, d4, d5] : List Int).take f)).length = P := by
                    rw [HPf.out, ← HPC.out, ← HL.out]; simp only [List.length_append]
                  obtain ⟨E, hE⟩ : ∃ E, P + L = E := ⟨_, rfl⟩
                  have hgood : Good XS P E := by
                    have := good_back (xs ++ cma lb ++ encs (([d1, d2, d3, d4, d5] : List Int).take f)) (encs (([d1, d2, d3, d4, d5] : List Int).drop (f + 1))) d g1 g2
                    rw [← hsp, hPl, hL, hE] at this; exact this
                  have hval : sgn (val XS P (E - P)) = d := by
                    have := (read_back (xs ++ cma lb ++ encs (([d1, d2, d3, d4, d5] : List Int).take f)) (encs (([d1, d2, d3, d4, d5] : List Int).drop (f + 1))) d g1 g2).2
                    rw [← hsp, hPl, hL] at this
                    rw [← hE, Nat.add_sub_cancel_left]; exact this
                  have HPn := Lib.hid (show E = PC + (encs (([d1, d2, d3, d4, d5] : List Int).take (f + 1))).length by
                    rw [encs_next [d1, d2, d3, d4, d5] f (by simpa using hlt), hd, List.length_append, hL, ← hE, HPf.out]; omega)
                  have hEN : E ≤ NX := by
                    rw [← HNX.out, hsp, List.length_append, List.length_append, hPl, hL]; omega
                  have hEP : (E : Int) - (P : Int) = (L : Int) := by omega
                  have hEb : E ≤ 1048640 := by omega
                  have HZ := Lib.hid (fun (W : World) (hB : Bytes W (.slice (some pa) NX cx) XS) (hT : Tab W R o cc) => zd29 W (some pa) NX cx XS P E d hB (by rw [← HDS.out]; exact out_bytes HA.out lb _) (by omega) R o cc hT hgood (by omega) hval)
                  have HV := Lib.hid (show ∀ W, Calls Tryd.prog 30 #[.int .i64 d] W fun e w' => e = .returned (.int .i64 (L : Nat)) ∧ W = w' from fun W => by have := vl30 d g1 g2 W; rw [hL] at this; exact this)
                  have HYM' := Lib.hid (show Bytes wM (.slice (some pa) NX cx) XS by have := HYM.out; rwa [HNX.out] at this)
                  clear hd hL hsp hPl hE hgood hval g1 g2 hEN
                  by_cases hna : f = 4
                  · subst hna
                    have hfp : flp I = (P : Int) := by rw [HIN.out.1, ← HPf.out]
                    go_wp2_with fail
                    refine (iv21 _ _).mono ?_
                    rw [hv]
                    rintro e wy ⟨rfl, bey⟩
                    have KBy := KBr.out.trans (bey.mono KBr.out.size)
                    have hwy : wy.cell? ⟨wL.heap.size, 4, none⟩ = some (.int .i64 d) := by rw [bey.cell ltw]; exact hw
                    obtain ⟨r3, r4⟩ := ixc ((bey.block KF ltk).trans HRK.out)
                    have lty : wL.heap.size < wy.heap.size := Nat.lt_of_lt_of_le ltw bey.size
                    have HBy := Lib.hid KBy; have HRy := Lib.hid ((bey.block KF ltk).trans HRK.out)
                    clear KBy bey
                    dsimp only
                    go_wp2_with fail
                    refine (gi22 _ _).mono ?_
                    rw [hfp]
                    rintro e wq ⟨rfl, beq⟩
                    have hwq : wq.cell? ⟨wL.heap.size, 4, none⟩ = some (.int .i64 d) := by rw [beq.cell lty]; exact hwy
                    have HBq := Lib.hid (HBy.out.trans (beq.mono HBy.out.size))
                    have ltq : wL.heap.size < wq.heap.size := Nat.lt_of_lt_of_le lty beq.size
                    clear beq hw hwy r1 r2 r3 r4 HBy HRy
                    dsimp only
                    go_wp2_with fail
                    refine (HZ.out _ (HYM'.out.keep HBq.out) (HTM.out.keep HBq.out)).mono ?_
                    rintro e wz ⟨rfl, nz, rfl⟩
                    dsimp only
                    go_wp2_with fail
                    refine (HV.out _).mono ?_
                    rintro e wz ⟨rfl, rfl⟩
                    dsimp only
                    go_wp2_with fail
                    go_roundw
                    case rel => exact ⟨4 + 1, E, by simp, by trivial, by omega, HPn, hEb, Lib.hid (HBq.out.trans (below_drewN _ _ _))⟩
                    case measure => simp only [intOf]; omega
                  · have hnb : ((f : Int) == 4) = false := by rw [beq_eq_false_iff_ne]; omega
                    go_wp2_with fail
                    refine (HZ.out _ (HYM'.out.keep KBr.out) (HTM.out.keep KBr.out)).mono ?_
                    rintro e wz ⟨rfl, nz, rfl⟩
                    dsimp only
                    go_wp2_with fail
                    refine (HV.out _).mono ?_
                    rintro e wz ⟨rfl, rfl⟩
                    dsimp only
                    go_wp2_with fail
                    go_roundw
                    case rel => exact ⟨f + 1, E, by simp, by trivial, by omega, HPn, hEb, Lib.hid (KBr.out.trans (below_drewN _ _ _))⟩
                    case measure => simp only [intOf]; omega
                · obtain rfl : f = 5 := by omega
                  have hfin : ((P : Int) == (NX : Int)) = true := by
                    have h1 := HPf.out
                    have h2 := HNX.out
                    rw [← HDS.out] at h2
                    simp only [List.length_append] at h2
                    have h3 := HPC.out; have h4 := HL.out
                    have h5 : ([d1, d2, d3, d4, d5] : List Int).take 5 = [d1, d2, d3, d4, d5] := rfl
                    rw [h5] at h1
                    simp; omega
                  go_wp2_with fail
                  go_ret
                  first | exact ⟨rfl, KBM.out.trans (KBr.out.mono KBM.out.size)⟩ | exact ⟨ret_bool hfin, KBM.out.trans (KBr.out.mono KBM.out.size)⟩
        · cases ch
          · as_aux_lemma =>
              go_wp2_with fail
              obtain ⟨wM, hwM⟩ : ∃ wM, wL.alloc (Obj.cells #[Value.int IntKind.i64 d1, Value.int IntKind.i64 0, Value.int IntKind.i64 0, Value.int IntKind.i64 0, Value.int IntKind.i64 0] 58) = wM := ⟨_, rfl⟩
              have hbM : Below wL.heap.size wL wM := by rw [← hwM]; exact (Below.refl _ _).alloc (Nat.le_refl _) _
              have HWM := Lib.hid (show wM.heap[wL.heap.size]? = some (Obj.cells #[Value.int IntKind.i64 d1, Value.int IntKind.i64 0, Value.int IntKind.i64 0, Value.int IntKind.i64 0, Value.int IntKind.i64 0] 58 (0, 0)) by rw [← hwM]; exact heap_alloc_new _ _)
              have KBM := Lib.hid (KBL.out.trans (hbM.mono KBL.out.size)); have HTM := Lib.hid (HTL.out.keep hbM); have HXM := Lib.hid ((hbM.block KF ltK).trans HXL.out); have HYM := Lib.hid (HYL.out.keep hbM)
              rw [hwM]
              clear hwM hbM KBL BPL BCL HTL HXL HYL lt1 lt2 ltK y1 y2 y3 y4 y5 z1 z2 z3 z4 z5 z6 e1 e2 e3 e4 e5
              have HDS := Lib.hid (show xs ++ cma lb ++ encs [d1] = XS by rw [← HX.out, outM_ds]; rfl)
              have HR := Lib.hid (show ∀ f, f < 1 → -1073741824 ≤ ([d1] : List Int).getD f 0 ∧ ([d1] : List Int).getD f 0 ≤ 1073741824 by
                intro f hf
                have : f = 0 := by omega
                rcases this with rfl <;> first | exact ⟨a1, b1⟩ | exact ⟨a2, b2⟩ | exact ⟨a3, b3⟩ | exact ⟨a4, b4⟩ | exact ⟨a5, b5⟩)
              have HF5 := Lib.hid (show ∀ f, f < 1 → ([d1, 0, 0, 0, 0] : List Int).getD f 0 = ([d1] : List Int).getD f 0 by
                intro f hf
                have : f = 0 := by omega
                rcases this with rfl <;> rfl)
              have hI0 : I = 0 := by rw [← HI.out]; unfold nameI; simp
              subst hI0
              have hv : ((0 : Int) != 0) = false := rfl
              clear a1 b1 a2 b2 a3 b3 a4 b4 a5 b5 HI
              go_loopw [14, 18] (fun pv fv w' => ∃ f P : Nat, fv = .int .i64 f ∧ pv = .int .i64 P ∧ f ≤ 1 ∧ Hid (P = PC + (encs (([d1] : List Int).take f)).length) ∧ P ≤ 1048640 ∧ Hid (Below wM.heap.size wM w')) (fun pv fv w' => 1 - (intOf fv).toNat)
              case atStart => exact ⟨0, PC, rfl, rfl, by omega, Lib.hid (by simp [encs]), hPCb, Lib.hid (Below.refl _ _)⟩
              case round =>
                obtain ⟨f, P, rfl, rfl, hfk, HPf, hPb, KBr⟩ := hrel
                have ltk : KF < wr.heap.size := Nat.lt_of_lt_of_le (Array.getElem?_eq_some_iff.1 HXM.out).1 KBr.out.size
                have rk : wr.heap[KF]? = some (Obj.cells #[Value.int IntKind.u32 0] 45 (0, 0)) := (KBr.out.block KF (Array.getElem?_eq_some_iff.1 HXM.out).1).trans HXM.out
                obtain ⟨r1, r2⟩ := ixc rk
                have HRK := Lib.hid rk
                clear rk
                by_cases hlt : f < 1
                · obtain ⟨d, hd⟩ : ∃ d, ([d1] : List Int).getD f 0 = d := ⟨_, rfl⟩
                  obtain ⟨g1, g2⟩ := HR.out f hlt
                  rw [hd] at g1 g2
                  obtain ⟨L, hL⟩ : ∃ L, (enc (zig d)).length = L := ⟨_, rfl⟩
                  have hL7 : L ≤ 7 := by rw [← hL]; exact enc_le _
                  have hw : wr.cell? ⟨wL.heap.size, f, none⟩ = some (.int .i64 d) := by
                    have h := want_cells ((KBr.out.block _ (Array.getElem?_eq_some_iff.1 HWM.out).1).trans HWM.out) f (by omega)
                    rw [h, HF5.out f hlt, hd]
                  have ltw : wL.heap.size < wr.heap.size := Nat.lt_of_lt_of_le (Array.getElem?_eq_some_iff.1 HWM.out).1 KBr.out.size
                  have hsp : XS = (xs ++ cma lb ++ encs (([d1] : List Int).take f)) ++ enc (zig d) ++ encs (([d1] : List Int).drop (f + 1)) := by
                    rw [← HDS.out, encs_at [d1] f (by simpa using hlt), hd]; simp only [List.append_assoc]
                  have hPl : (xs ++ cma lb ++ encs (([d1] : List Int).take f)).length = P := by
                    rw [HPf.out, ← HPC.out, ← HL.out]; simp only [List.length_append]
                  obtain ⟨E, hE⟩ : ∃ E, P + L = E := ⟨_, rfl⟩
                  have hgood : Good XS P E := by
                    have := good_back (xs ++ cma lb ++ encs (([d1] : List Int).take f)) (encs (([d1] : List Int).drop (f + 1))) d g1 g2
                    rw [← hsp, hPl, hL, hE] at this; exact this
                  have hval : sgn (val XS P (E - P)) = d := by
                    have := (read_back (xs ++ cma lb ++ encs (([d1] : List Int).take f)) (encs (([d1] : List Int).drop (f + 1))) d g1 g2).2
                    rw [← hsp, hPl, hL] at this
                    rw [← hE, Nat.add_sub_cancel_left]; exact this
                  have HPn := Lib.hid (show E = PC + (encs (([d1] : List Int).take (f + 1))).length by
                    rw [encs_next [d1] f (by simpa using hlt), hd, List.length_append, hL, ← hE, HPf.out]; omega)
                  have hEN : E ≤ NX := by
                    rw [← HNX.out, hsp, List.length_append, List.length_append, hPl, hL]; omega
                  have hEP : (E : Int) - (P : Int) = (L : Int) := by omega
                  have hEb : E ≤ 1048640 := by omega
                  have HZ := Lib.hid (fun (W : World) (hB : Bytes W (.slice (some pa) NX cx) XS) (hT : Tab W R o cc) => zd29 W (some pa) NX cx XS P E d hB (by rw [← HDS.out]; exact out_bytes HA.out lb _) (by omega) R o cc hT hgood (by omega) hval)
                  have HV := Lib.hid (show ∀ W, Calls Tryd.prog 30 #[.int .i64 d] W fun e w' => e = .returned (.int .i64 (L : Nat)) ∧ W = w' from fun W => by have := vl30 d g1 g2 W; rw [hL] at this; exact this)
                  have HYM' := Lib.hid (show Bytes wM (.slice (some pa) NX cx) XS by have := HYM.out; rwa [HNX.out] at this)
                  clear hd hL hsp hPl hE hgood hval g1 g2 hEN
                  have hnb : ((f : Int) == -1) = false := by rw [beq_eq_false_iff_ne]; omega
                  go_wp2_with fail
                  refine (HZ.out _ (HYM'.out.keep KBr.out) (HTM.out.keep KBr.out)).mono ?_
                  rintro e wz ⟨rfl, nz, rfl⟩
                  dsimp only
                  go_wp2_with fail
                  refine (HV.out _).mono ?_
                  rintro e wz ⟨rfl, rfl⟩
                  dsimp only
                  go_wp2_with fail
                  go_roundw
                  case rel => exact ⟨f + 1, E, by simp, by trivial, by omega, HPn, hEb, Lib.hid (KBr.out.trans (below_drewN _ _ _))⟩
                  case measure => simp only [intOf]; omega
                · obtain rfl : f = 1 := by omega
                  have hfin : ((P : Int) == (NX : Int)) = true := by
                    have h1 := HPf.out
                    have h2 := HNX.out
                    rw [← HDS.out] at h2
                    simp only [List.length_append] at h2
                    have h3 := HPC.out; have h4 := HL.out
                    have h5 : ([d1] : List Int).take 1 = [d1] := rfl
                    rw [h5] at h1
                    simp; omega
                  go_wp2_with fail
                  refine (iv21 _ _).mono ?_
                  rw [hv]
                  rintro e wy ⟨rfl, bey⟩
                  have KBy := Lib.hid (KBr.out.trans (bey.mono KBr.out.size))
                  clear bey
                  dsimp only
                  go_wp2_with fail
                  go_ret
                  first | exact ⟨rfl, KBM.out.trans (KBy.out.mono KBM.out.size)⟩ | exact ⟨ret_bool hfin, KBM.out.trans (KBy.out.mono KBM.out.size)⟩
          · as_aux_lemma =>
              go_wp2_with fail
              obtain ⟨wM, hwM⟩ : ∃ wM, wL.alloc (Obj.cells #[Value.int IntKind.i64 d1, Value.int IntKind.i64 d5, Value.int IntKind.i64 0, Value.int IntKind.i64 0, Value.int IntKind.i64 0] 58) = wM := ⟨_, rfl⟩
              have hbM : Below wL.heap.size wL wM := by rw [← hwM]; exact (Below.refl _ _).alloc (Nat.le_refl _) _
              have HWM := Lib.hid (show wM.heap[wL.heap.size]? = some (Obj.cells #[Value.int IntKind.i64 d1, Value.int IntKind.i64 d5, Value.int IntKind.i64 0, Value.int IntKind.i64 0, Value.int IntKind.i64 0] 58 (0, 0)) by rw [← hwM]; exact heap_alloc_new _ _)
              have KBM := Lib.hid (KBL.out.trans (hbM.mono KBL.out.size)); have HTM := Lib.hid (HTL.out.keep hbM); have HXM := Lib.hid ((hbM.block KF ltK).trans HXL.out); have HYM := Lib.hid (HYL.out.keep hbM)
              rw [hwM]
              clear hwM hbM KBL BPL BCL HTL HXL HYL lt1 lt2 ltK y1 y2 y3 y4 y5 z1 z2 z3 z4 z5 z6 e1 e2 e3 e4 e5
              have HDS := Lib.hid (show xs ++ cma lb ++ encs [d1, d5] = XS by rw [← HX.out, outM_ds]; rfl)
              have HR := Lib.hid (show ∀ f, f < 2 → -1073741824 ≤ ([d1, d5] : List Int).getD f 0 ∧ ([d1, d5] : List Int).getD f 0 ≤ 1073741824 by
                intro f hf
                have : f = 0 ∨ f = 1 := by omega
                rcases this with rfl | rfl <;> first | exact ⟨a1, b1⟩ | exact ⟨a2, b2⟩ | exact ⟨a3, b3⟩ | exact ⟨a4, b4⟩ | exact ⟨a5, b5⟩)
              have HF5 := Lib.hid (show ∀ f, f < 2 → ([d1, d5, 0, 0, 0] : List Int).getD f 0 = ([d1, d5] : List Int).getD f 0 by
                intro f hf
                have : f = 0 ∨ f = 1 := by omega
                rcases this with rfl | rfl <;> rfl)
              have HIN := Lib.hid (show flp I = ((PC + (encs (([d1, d5] : List Int).take 1)).length : Nat) : Int) ∧ (I != 0) = true by
                have hb : (xs ++ cma lb ++ encs (([d1, d5] : List Int).take 1)).length ≤ 4194304 := by
                  have h1 := HNX.out
                  rw [← HDS.out, encs_at [d1, d5] 1 (by simp)] at h1
                  simp only [List.length_append] at h1 ⊢
                  omega
                have hI := HI.out
                have e : outA xs lb true d1 d2 d3 d4 = xs ++ cma lb ++ encs (([d1, d5] : List Int).take 1) := by unfold outA encs; simp
                unfold nameI at hI
                rw [if_pos rfl, e] at hI
                obtain ⟨f1, f2⟩ := flp_back _ hb
                rw [hI] at f1 f2
                refine ⟨?_, f2⟩
                rw [f1, ← HPC.out, ← HL.out]
                simp only [List.length_append])
              have hv : (I != 0) = true := HIN.out.2
              clear a1 b1 a2 b2 a3 b3 a4 b4 a5 b5 HI
              go_loopw [14, 18] (fun pv fv w' => ∃ f P : Nat, fv = .int .i64 f ∧ pv = .int .i64 P ∧ f ≤ 2 ∧ Hid (P = PC + (encs (([d1, d5] : List Int).take f)).length) ∧ P ≤ 1048640 ∧ Hid (Below wM.heap.size wM w')) (fun pv fv w' => 2 - (intOf fv).toNat)
              case atStart => exact ⟨0, PC, rfl, rfl, by omega, Lib.hid (by simp [encs]), hPCb, Lib.hid (Below.refl _ _)⟩
              case round =>
                obtain ⟨f, P, rfl, rfl, hfk, HPf, hPb, KBr⟩ := hrel
                have ltk : KF < wr.heap.size := Nat.lt_of_lt_of_le (Array.getElem?_eq_some_iff.1 HXM.out).1 KBr.out.size
                have rk : wr.heap[KF]? = some (Obj.cells #[Value.int IntKind.u32 I] 45 (0, 0)) := (KBr.out.block KF (Array.getElem?_eq_some_iff.1 HXM.out).1).trans HXM.out
                obtain ⟨r1, r2⟩ := ixc rk
                have HRK := Lib.hid rk
                clear rk
                by_cases hlt : f < 2
                · obtain ⟨d, hd⟩ : ∃ d, ([d1, d5] : List Int).getD f 0 = d := ⟨_, rfl⟩
                  obtain ⟨g1, g2⟩ := HR.out f hlt
                  rw [hd] at g1 g2
                  obtain ⟨L, hL⟩ : ∃ L, (enc (zig d)).length = L := ⟨_, rfl⟩
                  have hL7 : L ≤ 7 := by rw [← hL]; exact enc_le _
                  have hw : wr.cell? ⟨wL.heap.size, f, none⟩ = some (.int .i64 d) := by
                    have h := want_cells ((KBr.out.block _ (Array.getElem?_eq_some_iff.1 HWM.out).1).trans HWM.out) f (by omega)
                    rw [h, HF5.out f hlt, hd]
                  have ltw : wL.heap.size < wr.heap.size := Nat.lt_of_lt_of_le (Array.getElem?_eq_some_iff.1 HWM.out).1 KBr.out.size
                  have hsp : XS = (xs ++ cma lb ++ encs (([d1, d5] : List Int).take f)) ++ enc (zig d) ++ encs (([d1, d5] : List Int).drop (f + 1)) := by
                    rw [← HDS.out, encs_at [d1, d5] f (by simpa using hlt), hd]; simp only [List.append_assoc]
                  have hPl : (xs ++ cma lb ++ encs (([d1, d5] : List Int).take f)).length = P := by
                    rw [HPf.out, ← HPC.out, ← HL.out]; simp only [List.length_append]
                  obtain ⟨E, hE⟩ : ∃ E, P + L = E := ⟨_, rfl⟩
                  have hgood : Good XS P E := by
                    have := good_back (xs ++ cma lb ++ encs (([d1, d5] : List Int).take f)) (encs (([d1, d5] : List Int).drop (f + 1))) d g1 g2
                    rw [← hsp, hPl, hL, hE] at this; exact this
                  have hval : sgn (val XS P (E - P)) = d := by
                    have := (read_back (xs ++ cma lb ++ encs (([d1, d5] : List Int).take f)) (encs (([d1, d5] : List Int).drop (f + 1))) d g1 g2).2
                    rw [← hsp, hPl, hL] at this
                    rw [← hE, Nat.add_sub_cancel_left]; exact this
                  have HPn := Lib.hid (show E = PC + (encs (([d1, d5] : List Int).take (f + 1))).length by
                    rw [encs_next [d1, d5] f (by simpa using hlt), hd, List.length_append, hL, ← hE, HPf.out]; omega)
                  have hEN : E ≤ NX := by
                    rw [← HNX.out, hsp, List.length_append, List.length_append, hPl, hL]; omega
                  have hEP : (E : Int) - (P : Int) = (L : Int) := by omega
                  have hEb : E ≤ 1048640 := by omega
                  have HZ := Lib.hid (fun (W : World) (hB : Bytes W (.slice (some pa) NX cx) XS) (hT : Tab W R o cc) => zd29 W (some pa) NX cx XS P E d hB (by rw [← HDS.out]; exact out_bytes HA.out lb _) (by omega) R o cc hT hgood (by omega) hval)
                  have HV := Lib.hid (show ∀ W, Calls Tryd.prog 30 #[.int .i64 d] W fun e w' => e = .returned (.int .i64 (L : Nat)) ∧ W = w' from fun W => by have := vl30 d g1 g2 W; rw [hL] at this; exact this)
                  have HYM' := Lib.hid (show Bytes wM (.slice (some pa) NX cx) XS by have := HYM.out; rwa [HNX.out] at this)
                  clear hd hL hsp hPl hE hgood hval g1 g2 hEN
                  by_cases hna : f = 1
                  · subst hna
                    have hfp : flp I = (P : Int) := by rw [HIN.out.1, ← HPf.out]
                    go_wp2_with fail
                    refine (iv21 _ _).mono ?_
                    rw [hv]
                    rintro e wy ⟨rfl, bey⟩
                    have KBy := KBr.out.trans (bey.mono KBr.out.size)
                    have hwy : wy.cell? ⟨wL.heap.size, 1, none⟩ = some (.int .i64 d) := by rw [bey.cell ltw]; exact hw
                    obtain ⟨r3, r4⟩ := ixc ((bey.block KF ltk).trans HRK.out)
                    have lty : wL.heap.size < wy.heap.size := Nat.lt_of_lt_of_le ltw bey.size
                    have HBy := Lib.hid KBy; have HRy := Lib.hid ((bey.block KF ltk).trans HRK.out)
                    clear KBy bey
                    dsimp only
                    go_wp2_with fail
                    refine (gi22 _ _).mono ?_
                    rw [hfp]
                    rintro e wq ⟨rfl, beq⟩
                    have hwq : wq.cell? ⟨wL.heap.size, 1, none⟩ = some (.int .i64 d) := by rw [beq.cell lty]; exact hwy
                    have HBq := Lib.hid (HBy.out.trans (beq.mono HBy.out.size))
                    have ltq : wL.heap.size < wq.heap.size := Nat.lt_of_lt_of_le lty beq.size
                    clear beq hw hwy r1 r2 r3 r4 HBy HRy
                    dsimp only
                    go_wp2_with fail
                    refine (HZ.out _ (HYM'.out.keep HBq.out) (HTM.out.keep HBq.out)).mono ?_
                    rintro e wz ⟨rfl, nz, rfl⟩
                    dsimp only
                    go_wp2_with fail
                    refine (HV.out _).mono ?_
                    rintro e wz ⟨rfl, rfl⟩
                    dsimp only
                    go_wp2_with fail
                    go_roundw
                    case rel => exact ⟨1 + 1, E, by simp, by trivial, by omega, HPn, hEb, Lib.hid (HBq.out.trans (below_drewN _ _ _))⟩
                    case measure => simp only [intOf]; omega
                  · have hnb : ((f : Int) == 1) = false := by rw [beq_eq_false_iff_ne]; omega
                    go_wp2_with fail
                    refine (HZ.out _ (HYM'.out.keep KBr.out) (HTM.out.keep KBr.out)).mono ?_
                    rintro e wz ⟨rfl, nz, rfl⟩
                    dsimp only
                    go_wp2_with fail
                    refine (HV.out _).mono ?_
                    rintro e wz ⟨rfl, rfl⟩
                    dsimp only
                    go_wp2_with fail
                    go_roundw
                    case rel => exact ⟨f + 1, E, by simp, by trivial, by omega, HPn, hEb, Lib.hid (KBr.out.trans (below_drewN _ _ _))⟩
                    case measure => simp only [intOf]; omega
                · obtain rfl : f = 2 := by omega
                  have hfin : ((P : Int) == (NX : Int)) = true := by
                    have h1 := HPf.out
                    have h2 := HNX.out
                    rw [← HDS.out] at h2
                    simp only [List.length_append] at h2
                    have h3 := HPC.out; have h4 := HL.out
                    have h5 : ([d1, d5] : List Int).take 2 = [d1, d5] := rfl
                    rw [h5] at h1
                    simp; omega
                  go_wp2_with fail
                  go_ret
                  first | exact ⟨rfl, KBM.out.trans (KBr.out.mono KBM.out.size)⟩ | exact ⟨ret_bool hfin, KBM.out.trans (KBr.out.mono KBM.out.size)⟩
end Go.Proofs.YtbigamkmkmfdfaaDoor
