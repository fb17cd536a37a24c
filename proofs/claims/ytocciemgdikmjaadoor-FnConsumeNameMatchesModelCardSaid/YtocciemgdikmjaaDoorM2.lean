/-
  Tokenize: MakeLineColumnTracker, the lexer that Tokenize makes, its cells.
-/
import Derived.Test.YtocciemgdikmjaaDoorL2
import Derived.Test.YtocciemgdikmjaaDoorM1
import Derived.Deep.DeepCutAuto
import Derived.Laws.EntriesVeiled
import Derived.WideLaws
import Derived.Laws.CopyOwn
import Derived.Deep.RegionHeld3
import Derived.Lib.LazyBuf
namespace Go.Proofs.YtocciemgdikmjaaDoor
open Go.ChangeShapes Go.WideShapes Go.ChangeAt Go.RowKit
open Go.Lib (decodeN decode_at decodeGo)
set_option linter.unusedVariables false
abbrev logL : Array Value := #[.nilFunc, .nilFunc, .nilFunc, .nilFunc, .int .i8 0, .map none]
abbrev srcL (s : ByteArray) : Array Value := #[.string ⟨#[]⟩, .string ⟨#[]⟩, .string ⟨#[]⟩, .string s, .string ⟨#[]⟩, .string ⟨#[]⟩, .string ⟨#[]⟩, .string ⟨#[]⟩, .int .u8 0, .int .u32 0]
abbrev trkL (s : ByteArray) : Array Value := #[.string s, .string ⟨#[]⟩, .string ⟨#[]⟩, .int .i32 0, .int .i32 0, .int .i32 0, .int .i32 0, .bool true, .bool false, .bool true]
abbrev resZ : Array Value := #[.slice none 0 0, .slice none 0 0, .slice none 0 0, .string ⟨#[]⟩, .int .i32 0, .int .i32 0, .int .i32 0]
set_option maxRecDepth 100000 in
theorem ml68 (s : ByteArray) (w : World) (a : Nat) (c0 : w.cell? ⟨a, 0, none⟩ = some (.string ⟨#[]⟩)) (c1 : w.cell? ⟨a, 1, none⟩ = some (.string ⟨#[]⟩)) (c3 : w.cell? ⟨a, 3, none⟩ = some (.string s)) : Calls Tryd.prog 68 #[.pointer (some ⟨a, 0, none⟩)] w fun e w' => e = .returned (.agg (trkL s)) ∧ Below w.heap.size w w' := by
  have hlt : a < w.heap.size := block_lt_of_cell c0
  go_enter Tryd.func68, Tryd.ntmps68
  go_wp2_with fail
  go_region
  go_wp2_with fail
  refine bodyPost_ret (results_cell_row rfl _ _ w.heap.size 71 (trkL s) (0, 0) _ rfl ?_ Tryd.underlying71 rfl (by kernel_rfl)) rfl ⟨rfl, ((Below.refl _ _).alloc (Nat.le_refl _) _).drew⟩
  exact heap_alloc_new w (.cells (trkL s) 71)
abbrev lexT (s : ByteArray) (b : Bool) : Array Value := #[.bool b, .nilFunc, .nilFunc, .nilFunc, .nilFunc, .int .i8 0, .map none, .string ⟨#[]⟩, .string ⟨#[]⟩, .string ⟨#[]⟩, .string s, .string ⟨#[]⟩, .string ⟨#[]⟩, .string ⟨#[]⟩, .string ⟨#[]⟩, .int .u8 0, .int .u32 0, .slice none 0 0, .slice none 0 0, .string ⟨#[]⟩, .int .i32 0, .int .i32 0, .string s, .string ⟨#[]⟩, .string ⟨#[]⟩, .int .i32 0, .int .i32 0, .int .i32 0, .int .i32 0, .bool true, .bool false, .bool true, .int .i64 0, .int .i64 0, .int .i32 0, .int .i32 0, .int .i32 0, .int .i32 0, .int .u16 0, .int .u8 0, .int .u8 0]
abbrev W4 (s : ByteArray) (b : Bool) (w : World) : World := (((w.alloc (.cells logL 59)).alloc (.cells (srcL s) 69)).alloc (.cells #[.bool b] 51)).alloc (.cells resZ 34)
theorem alloc_old (w : World) (o : Obj) (k : Nat) (hk : k < w.heap.size) : (w.alloc o).heap[k]? = w.heap[k]? := ((Below.refl w.heap.size w).alloc (Nat.le_refl _) o).block k hk
theorem alloc_size (w : World) (o : Obj) : (w.alloc o).heap.size = w.heap.size + 1 := by simp
theorem blocks4 (w : World) (a b c d : Obj) : ((((w.alloc a).alloc b).alloc c).alloc d).heap[w.heap.size]? = some a ∧ ((((w.alloc a).alloc b).alloc c).alloc d).heap[w.heap.size + 1]? = some b ∧ ((((w.alloc a).alloc b).alloc c).alloc d).heap[w.heap.size + 2]? = some c ∧ ((((w.alloc a).alloc b).alloc c).alloc d).heap[w.heap.size + 3]? = some d ∧ ((((w.alloc a).alloc b).alloc c).alloc d).heap.size = w.heap.size + 4 ∧ Below w.heap.size w ((((w.alloc a).alloc b).alloc c).alloc d) := by
  have s1 := alloc_size w a
  have s2 := alloc_size (w.alloc a) b
  have s3 := alloc_size ((w.alloc a).alloc b) c
  have s4 := alloc_size (((w.alloc a).alloc b).alloc c) d
  refine ⟨?_, ?_, ?_, ?_, by omega, ((((Below.refl _ _).alloc (Nat.le_refl _) _).alloc (by omega) _).alloc (by omega) _).alloc (by omega) _⟩
  · rw [alloc_old _ _ _ (by omega), alloc_old _ _ _ (by omega), alloc_old _ _ _ (by omega)]; exact heap_alloc_new w a
  · rw [alloc_old _ _ _ (by omega), alloc_old _ _ _ (by omega), ← s1]; exact heap_alloc_new _ b
  · rw [alloc_old _ _ _ (by omega), show w.heap.size + 2 = ((w.alloc a).alloc b).heap.size by omega]; exact heap_alloc_new _ c
  · rw [show w.heap.size + 3 = (((w.alloc a).alloc b).alloc c).heap.size by omega]; exact heap_alloc_new _ d
theorem cell_of {w : World} {g : Nat} {cs : Array Value} {t : TypeId} (h : w.heap[g]? = some (.cells cs t)) (i : Nat) : w.cell? ⟨g, i, none⟩ = cs[i]? := by
  simp only [World.cell?, h]; rfl
abbrev lexZ : Array Value := #[.bool false, .nilFunc, .nilFunc, .nilFunc, .nilFunc, .int .i8 0, .map none, .string ⟨#[]⟩, .string ⟨#[]⟩, .string ⟨#[]⟩, .string ⟨#[]⟩, .string ⟨#[]⟩, .string ⟨#[]⟩, .string ⟨#[]⟩, .string ⟨#[]⟩, .int .u8 0, .int .u32 0, .slice none 0 0, .slice none 0 0, .string ⟨#[]⟩, .int .i32 0, .int .i32 0, .string ⟨#[]⟩, .string ⟨#[]⟩, .string ⟨#[]⟩, .int .i32 0, .int .i32 0, .int .i32 0, .int .i32 0, .bool false, .bool false, .bool false, .int .i64 0, .int .i64 0, .int .i32 0, .int .i32 0, .int .i32 0, .int .i32 0, .int .u16 0, .int .u8 0, .int .u8 0]
theorem S17_of {wx w' : World} {A B C : Nat} {s : ByteArray} {b : Bool} (h1 : wx.heap[A]? = some (.cells logL 59)) (h2 : wx.heap[B]? = some (.cells (srcL s) 69)) (h3 : wx.heap[C]? = some (.cells #[.bool b] 51)) (hb : Below wx.heap.size wx w') :
    (w'.cell? ⟨A, 0, none⟩ = some (.nilFunc) ∧ w'.cell? ⟨A, 1, none⟩ = some (.nilFunc) ∧ w'.cell? ⟨A, 2, none⟩ = some (.nilFunc) ∧ w'.cell? ⟨A, 3, none⟩ = some (.nilFunc) ∧ w'.cell? ⟨A, 4, none⟩ = some (.int .i8 0) ∧ w'.cell? ⟨A, 5, none⟩ = some (.map none) ∧ w'.cell? ⟨B, 0, none⟩ = some (.string ⟨#[]⟩) ∧ w'.cell? ⟨B, 1, none⟩ = some (.string ⟨#[]⟩) ∧ w'.cell? ⟨B, 2, none⟩ = some (.string ⟨#[]⟩) ∧ w'.cell? ⟨B, 3, none⟩ = some (.string s) ∧ w'.cell? ⟨B, 4, none⟩ = some (.string ⟨#[]⟩) ∧ w'.cell? ⟨B, 5, none⟩ = some (.string ⟨#[]⟩) ∧ w'.cell? ⟨B, 6, none⟩ = some (.string ⟨#[]⟩) ∧ w'.cell? ⟨B, 7, none⟩ = some (.string ⟨#[]⟩) ∧ w'.cell? ⟨B, 8, none⟩ = some (.int .u8 0) ∧ w'.cell? ⟨B, 9, none⟩ = some (.int .u32 0) ∧ w'.cell? ⟨C, 0, none⟩ = some (.bool b)) ∧ Below wx.heap.size wx w' := by
  have lt : ∀ (k : Nat) (o : Obj), wx.heap[k]? = some o → k < wx.heap.size := fun k o h => (Array.getElem?_eq_some_iff.1 h).1
  have e1 : w'.heap[A]? = some (.cells logL 59) := (hb.block A (lt _ _ h1)).trans h1
  have e2 : w'.heap[B]? = some (.cells (srcL s) 69) := (hb.block B (lt _ _ h2)).trans h2
  have e3 : w'.heap[C]? = some (.cells #[.bool b] 51) := (hb.block C (lt _ _ h3)).trans h3
  exact ⟨⟨cell_of e1 0, cell_of e1 1, cell_of e1 2, cell_of e1 3, cell_of e1 4, cell_of e1 5, cell_of e2 0, cell_of e2 1, cell_of e2 2, cell_of e2 3, cell_of e2 4, cell_of e2 5, cell_of e2 6, cell_of e2 7, cell_of e2 8, cell_of e2 9, cell_of e3 0⟩, hb⟩
theorem below_grownR {w w' : World} {row : Option Nat} (h : w.grownBy w' row) (B : Nat) (hB : B ≤ w.heap.size) (hr : ∀ k, row = some k → B ≤ k) : Below B w w' :=
  ⟨h.os, h.tape, h.output, h.size, fun k hk => h.block k (by omega) (fun e => by have := hr k e.symm; omega)⟩
theorem own_blk {w : World} {B e size n : Nat} {v : Value} {xs : List Value} (h : w.ownsRow B e size v n xs) : ∀ k, v.ownBlock = some k → B ≤ k := by
  intro k hk
  obtain ⟨_, ⟨h1, _⟩ | ⟨g, cap, cur, hv, hb, _⟩⟩ := h
  · rw [h1] at hk; cases hk
  · rw [hv] at hk; injection hk with hk; subst hk; exact hb
theorem own_keep {w w' : World} {B e size n : Nat} {v : Value} {xs : List Value} (h : w.ownsRow B e size v n xs) (g : Nat) (hg : g < B) (hb : w.grownBy w' (some g)) : w'.ownsRow B e size v n xs := by
  rcases h with ⟨hl, h0 | ⟨k, cap, cur, rfl, hB, hk, hr⟩⟩
  · exact ⟨hl, Or.inl h0⟩
  · refine ⟨hl, Or.inr ⟨k, cap, cur, rfl, hB, ?_, hr⟩⟩
    rw [hb.block k (Array.getElem?_eq_some_iff.1 hk).1 (by intro e; injection e; omega)]
    exact hk
theorem own_mono {w : World} {B B' e size n : Nat} {v : Value} {xs : List Value} (h : w.ownsRow B e size v n xs) (hb : B' ≤ B) : w.ownsRow B' e size v n xs := by
  rcases h with ⟨hl, h0 | ⟨k, cap, cur, rfl, hB, hr⟩⟩
  · exact ⟨hl, Or.inl h0⟩
  · exact ⟨hl, Or.inr ⟨k, cap, cur, rfl, by omega, hr⟩⟩
theorem CL.keepB {w w' : World} {g : Nat} {s : ByteArray} {nl cur cp st ln : Int} (h : CL w g s nl cur cp st ln) (hb : Below (g + 1) w w') : CL w' g s nl cur cp st ln := by
  have hc : ∀ i, w'.cell? ⟨g, i, none⟩ = w.cell? ⟨g, i, none⟩ := fun i => hb.cell (by show g < g + 1; omega)
  exact ⟨Nat.lt_of_lt_of_le h.lt hb.size, by rw [hc]; exact h.c10, by rw [hc]; exact h.c32, by rw [hc]; exact h.c33, by rw [hc]; exact h.c35, by rw [hc]; exact h.c36, by rw [hc]; exact h.c37, fun i => by rw [hb.frozen (by show g < g + 1; omega)]; exact h.fz i⟩
theorem Pl.keepB {w0 w w' : World} {g : Nat} {s : ByteArray} {C : Nat → Option Value} {p st : Nat} {u k f : Int} (h : Pl w0 w g s C p st u k f) (hb : Below (g + 1) w w') : Pl w0 w' g s C p st u k f := by
  have hc : ∀ i, w'.cell? ⟨g, i, none⟩ = w.cell? ⟨g, i, none⟩ := fun i => hb.cell (by show g < g + 1; omega)
  have lo := h.lo
  exact ⟨CL.keepB h.at_ hb, by rw [hc]; exact h.c38, by rw [hc]; exact h.c39, by rw [hc]; exact h.c40, fun i hi => by rw [hc]; exact h.oth i hi, h.tb, h.be.trans (hb.mono (by omega)), h.lo⟩
theorem tk_cells (w : World) (a b c d e : Value) (t : TypeId) : ∀ j u, [a, b, c, d, e][j]? = some u → (w.alloc (.cells #[a, b, c, d, e] t)).cell? ((⟨w.heap.size, 0, none⟩ : Addr).add j) = some u := by
  intro j u h
  rw [Addr.add_lit, Nat.zero_add, cell_of (heap_alloc_new w (.cells #[a, b, c, d, e] t)) j]
  simpa using h
theorem infoTk : (Tryd.prog.info? 41).map (fun i => (i.zero, i.size, i.bytes)) = some (some (.agg #[.int .i32 0, .int .i32 0, .int .u16 0, .int .u8 0, .int .u8 0]), 5, 12) := by kernel_rfl
/-- where Tokenize begins: behind a byte order mark -/
def bomE (s : ByteArray) : Nat := if cpOf s 0 = 65279 then wid s 0 else 0
theorem bomE_le (s : ByteArray) : bomE s ≤ s.size := by
  unfold bomE
  split
  · have := wid_le s 0 (Nat.zero_le _); omega
  · exact Nat.zero_le _
/-- the cells of the lexer that Tokenize reads besides -/
def CF (C : Nat → Option Value) : Prop := C 17 = some (.slice none 0 0) ∧ C 18 = some (.slice none 0 0) ∧ C 19 = some (.string ⟨#[]⟩) ∧ C 20 = some (.int .i32 0) ∧ C 21 = some (.int .i32 0)
theorem lexT_CL {w : World} {g : Nat} {s : ByteArray} {b : Bool} (h : w.heap[g]? = some (.cells (lexT s b) 73)) : CL w g s 0 0 0 0 0 :=
  ⟨(Array.getElem?_eq_some_iff.1 h).1, cell_of h 10, cell_of h 32, cell_of h 33, cell_of h 35, cell_of h 36, cell_of h 37, fun i => by simp only [World.frozen?, h]; simp⟩
theorem start_pl {w wx w2 : World} {g : Nat} {s : ByteArray} {b : Bool} (hX : wx.heap[g]? = some (.cells (lexT s b) 73)) (hb : Below w.heap.size w wx) (lo : w.heap.size ≤ g) (hT : Lib.Utf8Tabs 0 1 w) (ha : At w2 g s 0 0) (hs : Stepped wx w2 g) :
    Pl w w2 g s (fun i => w2.cell? ⟨g, i, none⟩) 0 0 0 0 0 ∧ CF (fun i => w2.cell? ⟨g, i, none⟩) := by
  have hc : ∀ i, i ≠ 32 → i ≠ 33 → i ≠ 35 → i ≠ 37 → w2.cell? ⟨g, i, none⟩ = (lexT s b)[i]? := fun i a b c d => (hs.cells i a b c d).trans (cell_of hX i)
  refine ⟨⟨ha, ?_, ?_, ?_, fun i _ => rfl, hT, hb.trans (stepped_below hs hb.size lo), lo⟩, ?_⟩
  · exact hc 38 (by omega) (by omega) (by omega) (by omega)
  · exact hc 39 (by omega) (by omega) (by omega) (by omega)
  · exact hc 40 (by omega) (by omega) (by omega) (by omega)
  · exact ⟨hc 17 (by omega) (by omega) (by omega) (by omega), hc 18 (by omega) (by omega) (by omega) (by omega), hc 19 (by omega) (by omega) (by omega) (by omega), hc 20 (by omega) (by omega) (by omega) (by omega), hc 21 (by omega) (by omega) (by omega) (by omega)⟩
def resL (v : Value) (n : Nat) : Array Value := #[v, .slice none 0 0, .slice none 0 0, .string ⟨#[]⟩, .int .i32 0, .int .i32 0, .int .i32 ((n : Int) + 1)]
/-- what Tokenize answers, the first token at p -/
def TokSaid (w : World) (s : ByteArray) (p : Nat) (e : Ending) (w' : World) : Prop :=
  ∃ v J, e = .returned (.agg (resL v (cnt s s.size))) ∧ (∀ i, i < J → pos s p i < s.size) ∧ pos s p J = s.size ∧ w'.ownsRow w.heap.size 41 5 v J (tkC s p J) ∧ Below w.heap.size w w'
/-- in the loop: j tokens lie in v, the lexer holds the next -/
structure RT (w : World) (g R : Nat) (s : ByteArray) (C : Nat → Option Value) (p : Nat) (v : Value) (j q : Nat) (wx : World) : Prop where
  q0 : pos s p j = q
  lt : ∀ i, i < j → pos s p i < s.size
  le : q ≤ s.size
  jq : j ≤ q
  pl : Pl w wx g s C (tok s q).e q (tok s q).u (tok s q).k (tok s q).f
  rs : wx.heap[R]? = some (.cells resZ 34)
  row : wx.ownsRow (g + 1) 41 5 v j (tkC s p j)
theorem slice_none_neq {t e : TypeId} (h : Tryd.prog.underlying t = some (.slice e)) (w : World) : (binOp .neq t (.slice none 0 0) (.slice none 0 0)).run Tryd.prog w = .ok (.bool false) w := run_neq_slice_nil w t e none 0 0 h
end Go.Proofs.YtocciemgdikmjaaDoor
