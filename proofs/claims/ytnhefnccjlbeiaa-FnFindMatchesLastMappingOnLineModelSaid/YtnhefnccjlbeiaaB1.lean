/-
  Contracts of the small js_lexer functions of the seat (Raw, Loc, Range, rawIdentifier over a lexer that was just made).
-/
import Derived.Test.YtnhefnccjlbeiaaRows
import Derived.WalkKit
import Derived.ProofKit
import Derived.OpenShut
import Derived.Lib.Hide
import Derived.Outline
import Derived.WalkLawsBesides
import Derived.Laws.Tables
import Derived.Great.BuildSlice
import Derived.Deep.QuietTactic
import Derived.Deep.Draws
import Derived.BigQuiet
import Derived.Deep.RegionWith
namespace Go.Proofs.Ytnhefnccjlbeiaa
open Go.ChangeShapes Go.WideShapes Go.ChangeAt Go.RowKit
set_option linter.unusedVariables false
theorem ret_bool {a b : Bool} (h : a = b) : Ending.returned (.bool a) = .returned (.bool b) := by rw [h]
noncomputable def srcCells (s : ByteArray) : Array Value := (Try.prog.built 96 [(2, .string s)]).getD #[]
noncomputable def lexCells (s : ByteArray) (a b : Int) : Array Value := (Try.prog.built 112 [(5, .agg (srcCells s)), (19, .int .i64 a), (20, .int .i64 b)]).getD #[]
theorem src_built (s : ByteArray) : Try.prog.built 96 [(2, .string s)] = some (srcCells s) := by kernel_rfl
theorem lex_built (s : ByteArray) (a b : Int) : Try.prog.built 112 [(5, .agg (srcCells s)), (19, .int .i64 a), (20, .int .i64 b)] = some (lexCells s a b) := by kernel_rfl
theorem lex_14 (s : ByteArray) (a b : Int) : (lexCells s a b)[14]? = some (.string s) := by kernel_rfl
theorem lex_53 (s : ByteArray) (a b : Int) : (lexCells s a b)[53]? = some (.int .i64 a) := by kernel_rfl
theorem lex_54 (s : ByteArray) (a b : Int) : (lexCells s a b)[54]? = some (.int .i64 b) := by kernel_rfl
theorem newlex (w : World) (s : ByteArray) (a b : Int) : Calls Try.prog 24 #[.string s, .int .i64 a, .int .i64 b] w fun e w' => e = .returned (.pointer (some ⟨w.heap.size, 0, none⟩)) ∧ w.alloc (.cells (lexCells s a b) 112) = w' := by
  go_enter Try.func24, Try.ntmps24
  go_wp2_with (first | (refine wpList_buildTo rfl 96 #[(2, .tmp 7)] rfl (some 8) rfl (srcCells s) (by kernel_rfl) ?_) | (refine wpList_buildTo rfl 112 #[(5, .tmp 8), (19, .tmp 9), (20, .tmp 10)] rfl (some 11) rfl (lexCells s a b) (by kernel_rfl) ?_))
  go_ret
  exact ⟨rfl, rfl⟩

structure Lx (w : World) (g : Nat) (s : ByteArray) (a b : Int) : Prop where
  c14 : w.cell? ⟨g, 14, none⟩ = some (.string s)
  c53 : w.cell? ⟨g, 53, none⟩ = some (.int .i64 a)
  c54 : w.cell? ⟨g, 54, none⟩ = some (.int .i64 b)
theorem cell_alloc_last (w : World) (cs : Array Value) (t : TypeId) (i : Nat) : (w.alloc (.cells cs t)).cell? ⟨w.heap.size, i, none⟩ = cs[i]? := by
  have h : (w.alloc (.cells cs t)).heap[w.heap.size]? = some (.cells cs t) := by
    show (w.heap.push _)[w.heap.size]? = _
    simp
  simp only [World.cell?, h]
  rfl
theorem Lx.new (w : World) (s : ByteArray) (a b : Int) : Lx (w.alloc (.cells (lexCells s a b) 112)) w.heap.size s a b :=
  ⟨by rw [cell_alloc_last, lex_14], by rw [cell_alloc_last, lex_53], by rw [cell_alloc_last, lex_54]⟩
theorem raw_any (w : World) (g : Nat) (s : ByteArray) (a b : Nat) (h : Lx w g s a b) (hab : a ≤ b) (hb : b ≤ s.size) (hs : s.size ≤ maxLen) :
    Calls Try.prog 25 #[.pointer (some ⟨g, 0, none⟩)] w fun e w' => e = .returned (.string (s.extract a b)) ∧ ∃ n, w' = w.drewN n := by
  unfold maxLen at hs
  obtain ⟨h1, h2, h3⟩ := h
  go_enter Try.func25, Try.ntmps25
  go_wp2
  go_quiet (fail)
  go_wp2
  go_ret
  exact ⟨rfl, _, rfl⟩
theorem loc_any (w : World) (g : Nat) (s : ByteArray) (a b : Nat) (h : Lx w g s a b) (ha : a ≤ 1048576) (hg : g < w.heap.size) :
    Calls Try.prog 30 #[.pointer (some ⟨g, 0, none⟩)] w fun e w' => e = .returned (.agg #[.int .i32 a]) ∧ Below w.heap.size w w' := by
  obtain ⟨h1, h2, h3⟩ := h
  go_enter Try.func30, Try.ntmps30
  go_wp2
  exact bodyPost_ret (v := .agg #[.int .i32 a]) (by simp [results, Try.results30, go_sem]) rfl ⟨rfl, (Below.refl _ _).alloc (Nat.le_refl _) _⟩
theorem range_any (w : World) (g : Nat) (s : ByteArray) (a b : Nat) (h : Lx w g s a b) (hab : a ≤ b) (hb : b ≤ 1048576) (hg : g < w.heap.size) :
    Calls Try.prog 38 #[.pointer (some ⟨g, 0, none⟩)] w fun e w' => e = .returned (.agg #[.int .i32 a, .int .i32 ((b : Int) - a)]) ∧ Below w.heap.size w w' := by
  obtain ⟨h1, h2, h3⟩ := h
  go_enter Try.func38, Try.ntmps38
  go_wp2
  go_region
  go_wp2
  exact bodyPost_ret (v := .agg #[.int .i32 a, .int .i32 ((b : Int) - a)]) (by simp [results, Try.results38, go_sem]) rfl ⟨rfl, ((Below.refl _ _).alloc (Nat.le_refl _) _).drew⟩
abbrev flip (x : Int) : Int := bits BinOp.xor IntKind.u32 IntKind.u32.max x
theorem mk_any (w : World) (x : Int) :
    Calls Try.prog 44 #[.int .u32 x] w fun e w' => e = .returned (.agg #[.int .u32 (flip x)]) ∧ Below w.heap.size w w' := by
  go_enter Try.func44, Try.ntmps44
  go_wp2
  exact bodyPost_ret (v := .agg #[.int .u32 (flip x)]) (by simp [results, Try.results44, go_sem]) rfl ⟨rfl, (Below.refl _ _).alloc (Nat.le_refl _) _⟩
theorem Lx.keep {w w' : World} {g : Nat} {s : ByteArray} {a b : Int} (h : Lx w g s a b) (B : Nat) (hb : Below B w w') (hg : g < B) : Lx w' g s a b :=
  ⟨by rw [hb.cell hg]; exact h.c14, by rw [hb.cell hg]; exact h.c53, by rw [hb.cell hg]; exact h.c54⟩
abbrev sub0 : Obj := .cells #[.string ⟨#[]⟩, .int .u32 0] 59
theorem after43 {w w' : World} {n : Nat} (hb : Below ((w.alloc sub0).drewN n).heap.size ((w.alloc sub0).drewN n) w') :
    w'.cell? ⟨w.heap.size, 0, none⟩ = some (.string ⟨#[]⟩) ∧ w'.cell? ⟨w.heap.size, 1, none⟩ = some (.int .u32 0) ∧ w'.frozen? ⟨w.heap.size, 0, none⟩ = false ∧ w'.frozen? ⟨w.heap.size, 1, none⟩ = false ∧ Below w.heap.size w w' := by
  have hs : w.heap.size < ((w.alloc sub0).drewN n).heap.size := by simp [World.drewN]
  have hl : ((w.alloc sub0).drewN n).heap[w.heap.size]? = some sub0 := by
    show (w.heap.push _)[w.heap.size]? = _
    simp
  have hk := (hb.block _ hs).trans hl
  refine ⟨by simp only [World.cell?, hk]; rfl, by simp only [World.cell?, hk]; rfl, by simp only [World.frozen?, hk]; rfl, by simp only [World.frozen?, hk]; rfl, ?_⟩
  have b0 : Below w.heap.size w (w.alloc sub0) := (Below.refl _ _).alloc (Nat.le_refl _) _
  have b1 : Below w.heap.size w ((w.alloc sub0).drewN n) := ⟨b0.os, b0.tape, b0.output, b0.size, b0.block⟩
  exact b1.trans (hb.mono (Nat.le_of_lt hs))
theorem ident_any (w : World) (g : Nat) (s : ByteArray) (a b : Nat) (h : Lx w g s a b) (hab : a ≤ b) (hb : b ≤ s.size) (hs : s.size ≤ 1048576) (hg : g < w.heap.size) :
    Calls Try.prog 43 #[.pointer (some ⟨g, 0, none⟩)] w fun e w' => e = .returned (.agg #[.string (s.extract a b), .int .u32 (flip a)]) ∧ Below w.heap.size w w' := by
  have hm : s.size ≤ maxLen := by unfold maxLen; omega
  have hbw : ∀ o, Below w.heap.size w (w.alloc o).drew := fun o => ((Below.refl _ _).alloc (Nat.le_refl _) _).drew
  have hL : ∀ o, Lx (w.alloc o).drew g s a b := fun o => h.keep _ (hbw o) hg
  have HL := Lib.hid hL
  clear hL hbw
  obtain ⟨h1, h2, h3⟩ := id h
  have hwr : IntKind.u32.wrap (a : Int) = a := IntWalk.u32_in _ (by omega)
  go_enter Try.func43, Try.ntmps43
  go_wp2
  go_region_with (first | (go_at_call 25; refine (raw_any _ g s a b (by exact HL.out _) hab hb hm).mono ?_; rintro e w' ⟨rfl, n, rfl⟩) | (go_at_call 44; refine (mk_any _ _).mono ?_; rintro e w' ⟨rfl, hbel⟩; obtain ⟨q0, q1, f0, f1, hbw⟩ := after43 hbel; have HB := Lib.hid hbw; clear hbel hbw))
  all_goals
    go_wp2
    exact bodyPost_ret (v := .agg #[.string (s.extract a b), .int .u32 (flip a)]) (by simp [results, Try.results43, go_sem, q0, q1]) rfl ⟨rfl, (HB.out.setCell (Nat.le_refl _) _).setCell (Nat.le_refl _) _⟩
theorem zident_any (w : World) (g : Nat) (s : ByteArray) (a b : Nat) (h : Lx w g s a b) (hab : a ≤ b) (hb : b ≤ s.size) (hs : s.size ≤ 1048576) (hg : g < w.heap.size) :
    Calls Try.prog 32 #[.pointer (some ⟨g, 0, none⟩)] w fun e w' => e = .returned (.agg #[.string (s.extract a b), .int .u32 (flip a)]) ∧ Below w.heap.size w w' := by
  have hbw : Below w.heap.size w (w.alloc sub0) := (Below.refl _ _).alloc (Nat.le_refl _) _
  have hL : Lx (w.alloc sub0) g s a b := h.keep _ hbw hg
  go_enter Try.func32, Try.ntmps32
  go_wp2_with fail
  refine (ident_any _ g s a b hL hab hb hs (by simp; omega)).mono ?_
  rintro e w' ⟨rfl, hbel⟩
  obtain ⟨q0, q1, f0, f1, hbw2⟩ := after43 (n := 0) hbel
  have HB := Lib.hid hbw2
  clear hbel hbw2 hbw hL
  go_wp2_with fail
  exact bodyPost_ret (v := .agg #[.string (s.extract a b), .int .u32 (flip a)]) (by simp [results, Try.results32, go_sem, q0, q1]) rfl ⟨rfl, (HB.out.setCell (Nat.le_refl _) _).setCell (Nat.le_refl _) _⟩
