/-
  The lexer of n011_111's laws: made, stepped, read.
-/
import Derived.Test.YtocciemgdikmjaaDoorD5
namespace Go.Proofs.YtocciemgdikmjaaDoor
open Go.ChangeShapes Go.WideShapes Go.ChangeAt Go.RowKit
open Go.Lib (decodeN decode_at decodeGo)
set_option linter.unusedVariables false
noncomputable def optC (b : Bool) : Array Value := (Tryd.prog.built 51 [(0, .bool b)]).getD #[]
noncomputable def lexN (s : ByteArray) (b : Bool) : Array Value := (Tryd.prog.built 73 [(0, .agg (optC b)), (2, .agg (srcC s))]).getD #[]
theorem lexN_10 (s : ByteArray) (b : Bool) : (lexN s b)[10]? = some (.string s) := by kernel_rfl
theorem lexN_32 (s : ByteArray) (b : Bool) : (lexN s b)[32]? = some (.int .i64 0) := by kernel_rfl
theorem lexN_33 (s : ByteArray) (b : Bool) : (lexN s b)[33]? = some (.int .i64 0) := by kernel_rfl
theorem lexN_35 (s : ByteArray) (b : Bool) : (lexN s b)[35]? = some (.int .i32 0) := by kernel_rfl
theorem lexN_36 (s : ByteArray) (b : Bool) : (lexN s b)[36]? = some (.int .i32 0) := by kernel_rfl
theorem lexN_37 (s : ByteArray) (b : Bool) : (lexN s b)[37]? = some (.int .i32 0) := by kernel_rfl
theorem lexN_38 (s : ByteArray) (b : Bool) : (lexN s b)[38]? = some (.int .u16 0) := by kernel_rfl
theorem lexN_39 (s : ByteArray) (b : Bool) : (lexN s b)[39]? = some (.int .u8 0) := by kernel_rfl
theorem lexN_40 (s : ByteArray) (b : Bool) : (lexN s b)[40]? = some (.int .u8 0) := by kernel_rfl
theorem lexN_cell (w : World) (s : ByteArray) (b : Bool) (i : Nat) : (w.alloc (.cells (lexN s b) 73)).cell? ⟨w.heap.size, i, none⟩ = (lexN s b)[i]? := by
  have h : (w.alloc (.cells (lexN s b) 73)).heap[w.heap.size]? = some (.cells (lexN s b) 73) := by
    show (w.heap.push _)[w.heap.size]? = _
    simp
  simp only [World.cell?, h]; rfl
theorem lexN_CL (w : World) (s : ByteArray) (b : Bool) : CL (w.alloc (.cells (lexN s b) 73)) w.heap.size s 0 0 0 0 0 := by
  have h : (w.alloc (.cells (lexN s b) 73)).heap[w.heap.size]? = some (.cells (lexN s b) 73) := by
    show (w.heap.push _)[w.heap.size]? = _
    simp
  have hc := lexN_cell w s b
  exact ⟨by simp, by rw [hc, lexN_10], by rw [hc, lexN_32], by rw [hc, lexN_33], by rw [hc, lexN_35], by rw [hc, lexN_36], by rw [hc, lexN_37], fun i => by simp only [World.frozen?, h]; simp⟩
set_option maxRecDepth 100000 in
theorem nl32 (s : ByteArray) (b : Bool) (w : World) : Calls Tryd.prog 32 #[.string s, .bool b] w fun e w' => e = .returned (.pointer (some ⟨w.heap.size, 0, none⟩)) ∧ w' = w.alloc (.cells (lexN s b) 73) := by
  go_enter Tryd.func32, Tryd.ntmps32
  go_wp2_with (first | (refine wpList_buildTo rfl 51 #[(0, .tmp 5)] rfl (some 6) rfl (optC b) (by kernel_rfl) ?_) | (refine wpList_buildTo rfl 69 #[(2, .tmp 7)] rfl (some 8) rfl (srcC s) (by kernel_rfl) ?_) | (refine wpList_buildTo rfl 73 #[(0, .tmp 6), (2, .tmp 8)] rfl (some 9) rfl (lexN s b) (by kernel_rfl) ?_))
  go_ret
  exact ⟨rfl, rfl⟩
theorem st33 {w : World} {g : Nat} {s : ByteArray} {cp : Int} (h : CL w g s 0 0 cp 0 0) (hT : Lib.Utf8Tabs 0 1 w) (hs : s.size ≤ 1048576) :
    Calls Tryd.prog 33 #[.pointer (some ⟨g, 0, none⟩)] w fun e w' => e = .returned (.tuple #[]) ∧ At w' g s 0 0 ∧ Stepped w w' g := by
  have HS := Lib.hid (step0 w g s cp h hT hs)
  clear h
  go_enter Tryd.func33, Tryd.ntmps33
  go_wp2_with fail
  refine (HS.out).mono ?_
  rintro e w2 ⟨rfl, ha, hst⟩
  dsimp only
  go_wp2_with fail
  go_end0
  exact ⟨rfl, ha, hst⟩
theorem cp46 {w0 w : World} {g : Nat} {s : ByteArray} {C : Nat → Option Value} {p st : Nat} {u k f : Int} (h : Pl w0 w g s C p st u k f) :
    Calls Tryd.prog 46 #[.pointer (some ⟨g, 0, none⟩)] w fun e w' => e = .returned (.int .i32 (cpOf s p)) ∧ w = w' := by
  obtain ⟨l, c10, c32, c33, c35, c36, c37, fz⟩ := id h.at_
  clear h
  go_enter Tryd.func46, Tryd.ntmps46
  go_wp2_with fail
  go_ret
  exact ⟨rfl, rfl⟩
theorem cu47 {w0 w : World} {g : Nat} {s : ByteArray} {C : Nat → Option Value} {p st : Nat} {u k f : Int} (h : Pl w0 w g s C p st u k f) :
    Calls Tryd.prog 47 #[.pointer (some ⟨g, 0, none⟩)] w fun e w' => e = .returned (.int .i64 (p + wid s p : Nat)) ∧ w = w' := by
  obtain ⟨l, c10, c32, c33, c35, c36, c37, fz⟩ := id h.at_
  clear h
  go_enter Tryd.func47, Tryd.ntmps47
  go_wp2_with fail
  go_ret
  exact ⟨rfl, rfl⟩
theorem nl48 {w0 w : World} {g : Nat} {s : ByteArray} {C : Nat → Option Value} {p st : Nat} {u k f : Int} (h : Pl w0 w g s C p st u k f) :
    Calls Tryd.prog 48 #[.pointer (some ⟨g, 0, none⟩)] w fun e w' => e = .returned (.int .i64 (cnt s (p + 1) : Nat)) ∧ w = w' := by
  obtain ⟨l, c10, c32, c33, c35, c36, c37, fz⟩ := id h.at_
  clear h
  go_enter Tryd.func48, Tryd.ntmps48
  go_wp2_with fail
  go_ret
  exact ⟨rfl, rfl⟩
/-- the token, read by value -/
def tokV (st ln : Int) (u k f : Int) : Value := .agg #[.int .i32 st, .int .i32 ln, .int .u16 u, .int .u8 k, .int .u8 f]
theorem tk35 {w0 w : World} {g : Nat} {s : ByteArray} {C : Nat → Option Value} {p st : Nat} {u k f : Int} (h : Pl w0 w g s C p st u k f) :
    Calls Tryd.prog 35 #[.pointer (some ⟨g, 0, none⟩)] w fun e w' => e = .returned (tokV st ((p : Int) - (st : Int)) u k f) ∧ Below w.heap.size w w' := by
  obtain ⟨l, c10, c32, c33, c35, c36, c37, fz⟩ := id h.at_
  have c38 := h.c38
  have c39 := h.c39
  have c40 := h.c40
  clear h
  go_enter Tryd.func35, Tryd.ntmps35
  go_wp2_with fail
  have hnew := heap_alloc_new w (.cells #[.int .i32 (st : Int), .int .i32 ((p : Int) - (st : Int)), .int .u16 u, .int .u8 k, .int .u8 f] 41)
  refine bodyPost_ret (results_cell_row rfl _ _ w.heap.size 41 #[.int .i32 (st : Int), .int .i32 ((p : Int) - (st : Int)), .int .u16 u, .int .u8 k, .int .u8 f] (0, 0) _ rfl ?_ Tryd.underlying41 rfl (by kernel_rfl)) rfl ⟨rfl, (Below.refl _ _).alloc (Nat.le_refl _) _⟩
  exact hnew
end Go.Proofs.YtocciemgdikmjaaDoor
