/-
  Places in a css text, plainly: code points and widths; the tracker that MakeLineColumnTracker makes.
-/
import Derived.Test.YtocciemgdikmjaaDoorF3
import Derived.Test.YtocciemgdikmjaaDoorC1
import Derived.Deep.DeepCutAuto
import Derived.Laws.EntriesVeiled
import Derived.WideLaws
import Derived.Laws.CopyOwn
import Derived.Deep.RegionHeld3
import Derived.Lib.LazyBuf
namespace Go.Proofs.YtocciemgdikmjaaDoor
open Go.ChangeShapes Go.WideShapes Go.ChangeAt Go.RowKit
open Go.Lib (decodeN decode_at decodeGo)
set_option linter.unusedVariables false
theorem byt_at (s : ByteArray) (i : Nat) (h : i < s.size) : (s[i]'h).toNat = byt s i := by
  have e1 : s.get! i = s[i]'h := by
    simp only [ByteArray.get!, ByteArray.getElem_eq_getElem_data]
    exact getElem!_pos s.data i (by simpa using h)
  unfold byt; rw [e1]
theorem byt_lt (s : ByteArray) (i : Nat) : byt s i < 256 := by
  unfold byt; exact UInt8.toNat_lt _
theorem byt_end (s : ByteArray) (i : Nat) (h : s.size ≤ i) : byt s i = 0 := by
  have e1 : s.get! i = default := by
    simp only [ByteArray.get!]
    exact getElem!_neg s.data i (by simpa using h)
  unfold byt; rw [e1]; rfl
theorem wide (s : ByteArray) (p : Nat) (h : p < s.size) (ha : 128 ≤ (s[p]'h).toNat) (k : Nat) (h1 : 1 ≤ k) (hk : k < (decodeGo (s.extract p s.size)).2) : ∃ h' : p + k < s.size, 128 ≤ (s[p + k]'h').toNat := by
  have hx : (s.extract p s.size).size = s.size - p := by simp
  have ds := dec_size (s.extract p s.size)
  rw [hx] at ds
  have hp : p + k < s.size := by omega
  refine ⟨hp, ?_⟩
  have g (j : Nat) (hj : p + j < s.size) : (s.extract p s.size).get! j = s[p + j]'hj := by
    have h1 : j < (s.extract p s.size).size := by omega
    have e1 : (s.extract p s.size).get! j = (s.extract p s.size)[j]'h1 := by
      simp only [ByteArray.get!, ByteArray.getElem_eq_getElem_data]
      exact getElem!_pos (s.extract p s.size).data j (by simpa using h1)
    rw [e1, ByteArray.getElem_extract]
  rw [← g k hp]
  unfold decodeGo at hk
  rw [if_neg (by omega), decode_at] at hk
  simp only [Nat.sub_zero, Nat.zero_add] at hk
  have e0 : (s.extract p s.size).get! 0 = s[p]'h := by simpa using g 0 (by omega)
  rw [e0] at hk
  generalize (s[p]'h).toNat = b0 at *
  have : k = 1 ∨ k = 2 ∨ k = 3 ∨ 4 ≤ k := by omega
  unfold decodeN at hk
  rcases this with rfl | rfl | rfl | h4
  · repeat' split at hk
    all_goals first | (simp at hk; done) | omega
  · repeat' split at hk
    all_goals first | (simp at hk; done) | omega
  · repeat' split at hk
    all_goals first | (simp at hk; done) | omega
  · repeat' split at hk
    all_goals (simp at hk; omega)
def wid (s : ByteArray) (p : Nat) : Nat := (decodeGo (s.extract p s.size)).2
theorem wid_end (s : ByteArray) : wid s s.size = 0 := by unfold wid; rw [at_end]
theorem wid_asc (s : ByteArray) (p : Nat) (h : p < s.size) (hb : byt s p < 128) : wid s p = 1 := by
  unfold wid; rw [(at_byte s p h).1 (by rw [byt_at]; exact hb)]
theorem wid_pos (s : ByteArray) (p : Nat) (h : p < s.size) : 1 ≤ wid s p := (at_byte s p h).2.2
theorem wid_le (s : ByteArray) (p : Nat) (h : p ≤ s.size) : p + wid s p ≤ s.size := by
  have := dec_size (s.extract p s.size)
  have hx : (s.extract p s.size).size = s.size - p := by simp
  unfold wid; omega
theorem wid_in (s : ByteArray) (p : Nat) (h : p < s.size) (j : Nat) (h1 : p < j) (h2 : j < p + wid s p) : 128 ≤ byt s j := by
  by_cases hb : byt s p < 128
  · rw [wid_asc s p h hb] at h2; omega
  · obtain ⟨h', hw⟩ := wide s p h (by rw [byt_at]; omega) (j - p) (by omega) (by unfold wid at h2; omega)
    have e : p + (j - p) = j := by omega
    rw [byt_at] at hw
    rw [← e]; exact hw
theorem cp_asc (s : ByteArray) (p : Nat) (h : p < s.size) (hb : byt s p < 128) : cpOf s p = (byt s p : Int) := by
  rw [cp_ascii s p h (by rw [byt_at]; exact hb), byt_at]
theorem cp_hi (s : ByteArray) (p : Nat) (h : p < s.size) (hb : 128 ≤ byt s p) : 128 ≤ cpOf s p := cp_high s p h (by rw [byt_at]; exact hb)
theorem cp_is (s : ByteArray) (p : Nat) (h : p ≤ s.size) (c : Nat) (hc : c < 128) (e : cpOf s p = (c : Int)) : p < s.size ∧ byt s p = c := by
  by_cases hp : p < s.size
  · refine ⟨hp, ?_⟩
    by_cases hb : byt s p < 128
    · rw [cp_asc s p hp hb] at e; omega
    · have := cp_hi s p hp (by omega); omega
  · obtain rfl : p = s.size := by omega
    rw [cp_end] at e; omega
abbrev srcL (s : ByteArray) : Array Value := #[.string ⟨#[]⟩, .string ⟨#[]⟩, .string ⟨#[]⟩, .string s, .string ⟨#[]⟩, .string ⟨#[]⟩, .string ⟨#[]⟩, .string ⟨#[]⟩, .int .u8 0, .int .u32 0]
abbrev trkL (s : ByteArray) : Array Value := #[.string s, .string ⟨#[]⟩, .string ⟨#[]⟩, .int .i32 0, .int .i32 0, .int .i32 0, .int .i32 0, .bool true, .bool false, .bool true]
set_option maxRecDepth 100000 in
theorem ml68 (s : ByteArray) (w : World) (a : Nat) (c0 : w.cell? ⟨a, 0, none⟩ = some (.string ⟨#[]⟩)) (c1 : w.cell? ⟨a, 1, none⟩ = some (.string ⟨#[]⟩)) (c3 : w.cell? ⟨a, 3, none⟩ = some (.string s)) : Calls Tryd.prog 68 #[.pointer (some ⟨a, 0, none⟩)] w fun e w' => e = .returned (.agg (trkL s)) ∧ Below w.heap.size w w' := by
  have hlt : a < w.heap.size := block_lt_of_cell c0
  go_enter Tryd.func68, Tryd.ntmps68
  go_wp2_with fail
  go_region
  go_wp2_with fail
  refine bodyPost_ret (results_cell_row rfl _ _ w.heap.size 71 (trkL s) (0, 0) _ rfl ?_ Tryd.underlying71 rfl (by kernel_rfl)) rfl ⟨rfl, ((Below.refl _ _).alloc (Nat.le_refl _) _).drew⟩
  exact heap_alloc_new w (.cells (trkL s) 71)
theorem alloc_old (w : World) (o : Obj) (k : Nat) (hk : k < w.heap.size) : (w.alloc o).heap[k]? = w.heap[k]? := ((Below.refl w.heap.size w).alloc (Nat.le_refl _) o).block k hk
theorem alloc_size (w : World) (o : Obj) : (w.alloc o).heap.size = w.heap.size + 1 := by simp
theorem cell_of {w : World} {g : Nat} {cs : Array Value} {t : TypeId} (h : w.heap[g]? = some (.cells cs t)) (i : Nat) : w.cell? ⟨g, i, none⟩ = cs[i]? := by
  simp only [World.cell?, h]; rfl
abbrev lexZ : Array Value := #[.bool false, .nilFunc, .nilFunc, .nilFunc, .nilFunc, .int .i8 0, .map none, .string ⟨#[]⟩, .string ⟨#[]⟩, .string ⟨#[]⟩, .string ⟨#[]⟩, .string ⟨#[]⟩, .string ⟨#[]⟩, .string ⟨#[]⟩, .string ⟨#[]⟩, .int .u8 0, .int .u32 0, .slice none 0 0, .slice none 0 0, .string ⟨#[]⟩, .int .i32 0, .int .i32 0, .string ⟨#[]⟩, .string ⟨#[]⟩, .string ⟨#[]⟩, .int .i32 0, .int .i32 0, .int .i32 0, .int .i32 0, .bool false, .bool false, .bool false, .int .i64 0, .int .i64 0, .int .i32 0, .int .i32 0, .int .i32 0, .int .i32 0, .int .u16 0, .int .u8 0, .int .u8 0]
theorem CL.keepB {w w' : World} {g : Nat} {s : ByteArray} {nl cur cp st ln : Int} (h : CL w g s nl cur cp st ln) (hb : Below (g + 1) w w') : CL w' g s nl cur cp st ln := by
  have hc : ∀ i, w'.cell? ⟨g, i, none⟩ = w.cell? ⟨g, i, none⟩ := fun i => hb.cell (by show g < g + 1; omega)
  exact ⟨Nat.lt_of_lt_of_le h.lt hb.size, by rw [hc]; exact h.c10, by rw [hc]; exact h.c32, by rw [hc]; exact h.c33, by rw [hc]; exact h.c35, by rw [hc]; exact h.c36, by rw [hc]; exact h.c37, fun i => by rw [hb.frozen (by show g < g + 1; omega)]; exact h.fz i⟩
theorem below_grownR {w w' : World} {row : Option Nat} (h : w.grownBy w' row) (B : Nat) (hB : B ≤ w.heap.size) (hr : ∀ k, row = some k → B ≤ k) : Below B w w' :=
  ⟨h.os, h.tape, h.output, h.size, fun k hk => h.block k (by omega) (fun e => by have := hr k e.symm; omega)⟩
end Go.Proofs.YtocciemgdikmjaaDoor
