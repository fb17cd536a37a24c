/-
  zzMakeLexerB5.
-/
import Derived.Test.YtocciemgdikmjaaDoorS9
import Derived.Great.BuildSlice
namespace Go.Proofs.YtocciemgdikmjaaDoor
open Go.ChangeShapes Go.WideShapes Go.ChangeAt Go.RowKit
set_option linter.unusedVariables false
abbrev lexM (s : ByteArray) (l0 l1 l2 l3 : Value) : Array Value := #[.bool false, l0, l1, l2, l3, .int .i8 3, .map none, .string ⟨#[]⟩, .string ⟨#[]⟩, .string ⟨#[]⟩, .string s, .string ⟨#[]⟩, .string ⟨#[]⟩, .string ⟨#[]⟩, .string ⟨#[]⟩, .int .u8 0, .int .u32 0, .slice none 0 0, .slice none 0 0, .string ⟨#[]⟩, .int .i32 0, .int .i32 0, .string ⟨#[]⟩, .string ⟨#[]⟩, .string ⟨#[]⟩, .int .i32 0, .int .i32 0, .int .i32 0, .int .i32 0, .bool false, .bool false, .bool false, .int .i64 0, .int .i64 0, .int .i32 0, .int .i32 0, .int .i32 0, .int .i32 0, .int .u16 0, .int .u8 0, .int .u8 0]
abbrev lexF (s : ByteArray) (l0 l1 l2 l3 : Value) (st : Int) : Array Value := #[.bool false, l0, l1, l2, l3, .int .i8 3, .map none, .string ⟨#[]⟩, .string ⟨#[]⟩, .string ⟨#[]⟩, .string s, .string ⟨#[]⟩, .string ⟨#[]⟩, .string ⟨#[]⟩, .string ⟨#[]⟩, .int .u8 0, .int .u32 0, .slice none 0 0, .slice none 0 0, .string ⟨#[]⟩, .int .i32 0, .int .i32 0, .string s, .string ⟨#[]⟩, .string ⟨#[]⟩, .int .i32 0, .int .i32 0, .int .i32 0, .int .i32 0, .bool true, .bool false, .bool true, .int .i64 0, .int .i64 st, .int .i32 0, .int .i32 0, .int .i32 st, .int .i32 0, .int .u16 0, .int .u8 0, .int .u8 0]
theorem below_set {B : Nat} {w w1 : World} (h : Below B w w1) {g : Nat} (hg : B ≤ g) (i : Nat) (v : Value) : Below B w (w1.setCell ⟨g, i, none⟩ v) :=
  h.trans ⟨rfl, rfl, rfl, by simp [World.setCell], fun k hk => Below.heap_setCell w1 ⟨g, i, none⟩ v k (by show k ≠ g; omega)⟩
set_option maxRecDepth 100000 in
theorem ml68o (s : ByteArray) (w : World) (a : Nat) (c0 : w.cell? ⟨a, 7, none⟩ = some (.string ⟨#[]⟩)) (c1 : w.cell? ⟨a, 8, none⟩ = some (.string ⟨#[]⟩)) (c3 : w.cell? ⟨a, 10, none⟩ = some (.string s)) : Calls Tryd.prog 68 #[.pointer (some ⟨a, 7, none⟩)] w fun e w' => e = .returned (.agg (trkL s)) ∧ Below w.heap.size w w' := by
  have hlt : a < w.heap.size := block_lt_of_cell c0
  go_enter Tryd.func68, Tryd.ntmps68
  go_wp2_with fail
  go_region
  go_wp2_with fail
  refine bodyPost_ret (results_cell_row rfl _ _ w.heap.size 71 (trkL s) (0, 0) _ rfl ?_ Tryd.underlying71 rfl (by kernel_rfl)) rfl ⟨rfl, ((Below.refl _ _).alloc (Nat.le_refl _) _).drew⟩
  exact heap_alloc_new w (.cells (trkL s) 71)
set_option maxRecDepth 100000 in
theorem set12 {W : World} {g : Nat} {s : ByteArray} {l0 l1 l2 l3 : Value} (st : Int) (h : W.heap[g]? = some (.cells (lexM s l0 l1 l2 l3) 73)) : ((((((((((((W.setCell ⟨g, 22, none⟩ (.string s)).setCell ⟨g, 23, none⟩ (.string ⟨#[]⟩)).setCell ⟨g, 24, none⟩ (.string ⟨#[]⟩)).setCell ⟨g, 25, none⟩ (.int .i32 0)).setCell ⟨g, 26, none⟩ (.int .i32 0)).setCell ⟨g, 27, none⟩ (.int .i32 0)).setCell ⟨g, 28, none⟩ (.int .i32 0)).setCell ⟨g, 29, none⟩ (.bool true)).setCell ⟨g, 30, none⟩ (.bool false)).setCell ⟨g, 31, none⟩ (.bool true)).setCell ⟨g, 33, none⟩ (.int .i64 st)).setCell ⟨g, 36, none⟩ (.int .i32 st)).heap[g]? = some (.cells (lexF s l0 l1 l2 l3 st) 73) := by
  have h0 := heap_setCell_same _ g 22 _ 73 (.string s) h
  have h1 := heap_setCell_same _ g 23 _ 73 (.string ⟨#[]⟩) h0
  have h2 := heap_setCell_same _ g 24 _ 73 (.string ⟨#[]⟩) h1
  have h3 := heap_setCell_same _ g 25 _ 73 (.int .i32 0) h2
  have h4 := heap_setCell_same _ g 26 _ 73 (.int .i32 0) h3
  have h5 := heap_setCell_same _ g 27 _ 73 (.int .i32 0) h4
  have h6 := heap_setCell_same _ g 28 _ 73 (.int .i32 0) h5
  have h7 := heap_setCell_same _ g 29 _ 73 (.bool true) h6
  have h8 := heap_setCell_same _ g 30 _ 73 (.bool false) h7
  have h9 := heap_setCell_same _ g 31 _ 73 (.bool true) h8
  have h10 := heap_setCell_same _ g 33 _ 73 (.int .i64 st) h9
  have h11 := heap_setCell_same _ g 36 _ 73 (.int .i32 st) h10
  exact h11.trans (by kernel_rfl)
theorem lexF_CL {w : World} {g : Nat} {s : ByteArray} {l0 l1 l2 l3 : Value} {st : Int} (h : w.heap[g]? = some (.cells (lexF s l0 l1 l2 l3 st) 73)) : CL w g s 0 st 0 st 0 :=
  ⟨(Array.getElem?_eq_some_iff.1 h).1, cell_of h 10, cell_of h 32, cell_of h 33, cell_of h 35, cell_of h 36, cell_of h 37, fz_of h⟩
theorem lexF_TK {w : World} {g : Nat} {s : ByteArray} {l0 l1 l2 l3 : Value} {st : Int} (h : w.heap[g]? = some (.cells (lexF s l0 l1 l2 l3 st) 73)) : TK w g s 0 0 0 0 true false :=
  ⟨(Array.getElem?_eq_some_iff.1 h).1, cell_of h 22, cell_of h 23, cell_of h 24, cell_of h 25, cell_of h 26, cell_of h 27, cell_of h 28, cell_of h 29, cell_of h 30, cell_of h 31, fz_of h⟩
theorem An.fz {w : World} {g : Nat} {s : ByteArray} {p st : Nat} (h : An w g s p st) : ∀ i, w.frozen? ⟨g, i, none⟩ = false := by
  obtain ⟨nl, _, h2⟩ := h
  exact h2.fz
/-- the lexer's own copy of the log -/
structure LC (w : World) (g K X E M : Nat) : Prop where
  c1 : w.cell? ⟨g, 1, none⟩ = some (fnL K X E M)
  oth : ∃ a b c : Value, w.cell? ⟨g, 2, none⟩ = some a ∧ w.cell? ⟨g, 3, none⟩ = some b ∧ w.cell? ⟨g, 4, none⟩ = some c
  c5 : w.cell? ⟨g, 5, none⟩ = some (.int .i8 3)
  c6 : w.cell? ⟨g, 6, none⟩ = some (.map none)
/-- the lexer as zzMakeLexerB5 makes it -/
def LexSaid (w : World) (s : ByteArray) (st : Nat) (g : Nat) (w' : World) : Prop := ∃ K X E M : Nat, An w' g s st st ∧ TK w' g s 0 0 0 0 true false ∧ LG w' g K X E M ∧ LC w' g K X E M ∧ w.heap.size ≤ g ∧ w.heap.size ≤ X ∧ w.heap.size ≤ M ∧ Below w.heap.size w w'
set_option maxRecDepth 100000 in
set_option maxHeartbeats 4000000 in
theorem mk56 (w : World) (s : ByteArray) (st : Nat) (hT : Lib.Utf8Tabs 0 1 w) (hst : st ≤ s.size) (hs : s.size ≤ 1048576) : Calls Tryd.prog 56 #[.string s, .int .i64 st] w fun e w' => ∃ g, e = .returned (.pointer (some ⟨g, 0, none⟩)) ∧ LexSaid w s st g w' := by
  have HT := Lib.hid hT
  clear hT
  go_enter Tryd.func56, Tryd.ntmps56
  go_wp2_with fail
  refine (nd72 w).mono ?_
  rintro e w1 ⟨v, rfl, K, X, E, M, c1, c2, c3, rfl, kK, kX, fX, kM, fM, hXM, hwK, hwX, hwM, hb⟩
  have HLOG := Lib.hid (And.intro kK (And.intro kX (And.intro fX (And.intro kM fM))))
  have HB := Lib.hid hb; have HO := Lib.hid (And.intro hXM (And.intro hwK (And.intro hwX hwM)))
  have hlt := And.intro (block_lt_of_cell kK) (And.intro (block_lt_of_cell kX) (block_lt_of_cell kM))
  have HLT := Lib.hid hlt
  clear kK kX fX kM fM hXM hwK hwX hwM hb hlt
  dsimp only
  go_upto_region 5 with (first | (refine wpList_buildTo rfl 69 #[(2, .tmp 7)] rfl (some 8) rfl (srcL s) (by kernel_rfl) ?_) | (refine wpList_buildTo rfl 73 #[(1, .tmp 6), (2, .tmp 8)] rfl (some 9) rfl (lexM s (fnL K X E M) (.func (Fn.func 95) #[] c1) (.func (Fn.func 96) #[] c2) (.func (Fn.func 97) #[] c3)) (by kernel_rfl) ?_))
  have HN0 := Lib.hid (heap_alloc_new w1 (.cells (lexM s (fnL K X E M) (.func (Fn.func 95) #[] c1) (.func (Fn.func 96) #[] c2) (.func (Fn.func 97) #[] c3)) 73))
  refine (ml68o s _ w1.heap.size (cell_of HN0.out 7) (cell_of HN0.out 8) (cell_of HN0.out 10)).mono ?_
  rintro e w2 ⟨rfl, hb2⟩
  have HN : Hid (w2.heap[w1.heap.size]? = some (.cells (lexM s (fnL K X E M) (.func (Fn.func 95) #[] c1) (.func (Fn.func 96) #[] c2) (.func (Fn.func 97) #[] c3)) 73)) := Lib.hid ((hb2.block _ (by simp)).trans HN0.out)
  have HB2 := Lib.hid ((below_alloc0 w1 (.cells (lexM s (fnL K X E M) (.func (Fn.func 95) #[] c1) (.func (Fn.func 96) #[] c2) (.func (Fn.func 97) #[] c3)) 73)).trans (hb2.mono (by simp)))
  have t22 := cell_of HN.out 22
  have t23 := cell_of HN.out 23
  have t24 := cell_of HN.out 24
  have t25 := cell_of HN.out 25
  have t26 := cell_of HN.out 26
  have t27 := cell_of HN.out 27
  have t28 := cell_of HN.out 28
  have t29 := cell_of HN.out 29
  have t30 := cell_of HN.out 30
  have t31 := cell_of HN.out 31
  have t33 := cell_of HN.out 33
  have t36 := cell_of HN.out 36
  have tf : ∀ i, w2.frozen? ⟨w1.heap.size, i, none⟩ = false := fz_of HN.out
  clear hb2 HN0
  dsimp only
  go_upto_region 4 with fail
  go_cut [5] (fun v wx => v = .pointer (some ⟨w1.heap.size, 0, none⟩) ∧ Hid (wx.heap[w1.heap.size]? = some (.cells (lexF s (fnL K X E M) (.func (Fn.func 95) #[] c1) (.func (Fn.func 96) #[] c2) (.func (Fn.func 97) #[] c3) st) 73) ∧ Below w1.heap.size w1 wx))
  case first =>
    go_wp2_with fail
    go_meet
    exact ⟨rfl, Lib.hid ⟨set12 _ HN.out, below_set (below_set (below_set (below_set (below_set (below_set (below_set (below_set (below_set (below_set (below_set (below_set HB2.out (Nat.le_refl _) _ _) (Nat.le_refl _) _ _) (Nat.le_refl _) _ _) (Nat.le_refl _) _ _) (Nat.le_refl _) _ _) (Nat.le_refl _) _ _) (Nat.le_refl _) _ _) (Nat.le_refl _) _ _) (Nat.le_refl _) _ _) (Nat.le_refl _) _ _) (Nat.le_refl _) _ _) (Nat.le_refl _) _ _⟩⟩
  case rest =>
    obtain ⟨rfl, HX⟩ := hcut
    clear t22 t23 t24 t25 t26 t27 t28 t29 t30 t31 t33 t36 tf HN
    have BX := Lib.hid (HB.out.trans (HX.out.2.mono HB.out.size))
    have HT1 := Lib.hid (tabs_below HT.out BX.out)
    have HS := Lib.hid (step_an0 _ w1.heap.size s st 0 (lexF_CL HX.out.1) HT1.out hst hs)
    go_wp2_with fail
    refine HS.out.mono ?_
    rintro e w3 ⟨rfl, han, hstp⟩
    have HAN := Lib.hid han; have HSTP := Lib.hid hstp
    clear han hstp HS
    dsimp only
    go_wp2_with fail
    go_ret
    have hx := HX.out.1
    have hX1 := HX.out.2
    have hlo := HLOG.out
    have ltW := HLT.out
    have hsz := HB.out.size
    have hno := HO.out
    have lg0 : LG w1 w1.heap.size K X E M := ⟨hlo.1, hlo.2.1, hlo.2.2.1, hlo.2.2.2.1, hlo.2.2.2.2, hno.1, by omega, by omega, by omega⟩
    have tk0 := lexF_TK hx
    have hc : ∀ i, i ≠ 32 → i ≠ 33 → i ≠ 35 → i ≠ 37 → w3.cell? ⟨w1.heap.size, i, none⟩ = (lexF s (fnL K X E M) (.func (Fn.func 95) #[] c1) (.func (Fn.func 96) #[] c2) (.func (Fn.func 97) #[] c3) st)[i]? := fun i a b c d => (HSTP.out.cells i a b c d).trans (cell_of hx i)
    refine ⟨w1.heap.size, rfl, K, X, E, M, HAN.out, ?_, (lg0.keep hX1).grown HSTP.out.by_, ?_, hsz, hno.2.2.1, hno.2.2.2, ?_⟩
    · exact ⟨Nat.lt_of_lt_of_le tk0.lt HSTP.out.by_.size, hc 22 (by omega) (by omega) (by omega) (by omega), hc 23 (by omega) (by omega) (by omega) (by omega), hc 24 (by omega) (by omega) (by omega) (by omega), hc 25 (by omega) (by omega) (by omega) (by omega), hc 26 (by omega) (by omega) (by omega) (by omega), hc 27 (by omega) (by omega) (by omega) (by omega), hc 28 (by omega) (by omega) (by omega) (by omega), hc 29 (by omega) (by omega) (by omega) (by omega), hc 30 (by omega) (by omega) (by omega) (by omega), hc 31 (by omega) (by omega) (by omega) (by omega), HAN.out.fz⟩
    · exact ⟨hc 1 (by omega) (by omega) (by omega) (by omega), ⟨_, _, _, hc 2 (by omega) (by omega) (by omega) (by omega), hc 3 (by omega) (by omega) (by omega) (by omega), hc 4 (by omega) (by omega) (by omega) (by omega)⟩, hc 5 (by omega) (by omega) (by omega) (by omega), hc 6 (by omega) (by omega) (by omega) (by omega)⟩
    · exact BX.out.trans ⟨HSTP.out.by_.os, HSTP.out.by_.tape, HSTP.out.by_.output, HSTP.out.by_.size, fun k hk => HSTP.out.by_.block k (Nat.lt_of_lt_of_le hk BX.out.size) (by intro e; injection e; omega)⟩
end Go.Proofs.YtocciemgdikmjaaDoor
