/-
  js_ast.IsWhitespace; decoding a rune.
-/
import Derived.Test.YtcnembabenlheaaDoorShelf
import Derived.Test.YtcnembabenlheaaDoorRows
import Derived.WalkKit
import Derived.ProofKit
import Derived.OpenShut
import Derived.Lib.Hide
import Derived.Outline
import Derived.WalkLawsBesides
import Derived.Lib.DecodeN
import Derived.Laws.Tables
import Derived.Great.BuildSlice
import Derived.Deep.RegionWith
import Derived.RegionTactic
import Derived.Laws.AppendOwn
namespace Go.Proofs.YtcnembabenlheaaDoor
open Go.ChangeShapes Go.WideShapes Go.ChangeAt Go.RowKit
open Go.Lib (decodeN decode_at decodeGo)
set_option linter.unusedVariables false
theorem ret_bool {a b : Bool} (h : a = b) : Ending.returned (.bool a) = .returned (.bool b) := by rw [h]
def wsL : List Int := [9, 11, 12, 32, 160, 5760, 8192, 8193, 8194, 8195, 8196, 8197, 8198, 8199, 8200, 8201, 8202, 8239, 8287, 12288, 65279]
def wsJ (c : Int) : Bool := wsL.contains c
set_option maxRecDepth 100000 in
set_option maxHeartbeats 4000000 in
theorem ws38 (c : Int) (w : World) : Calls Tryd.prog 38 #[.int .i32 c] w fun e w' => e = .returned (.bool (wsJ c)) ∧ w = w' := by
  by_cases h : wsJ c = true
  · have hm : c ∈ wsL := by simpa [wsJ] using h
    simp only [wsL, List.mem_cons, List.not_mem_nil, or_false] at hm
    rw [h]
    clear h
    rcases hm with rfl | rfl | rfl | rfl | rfl | rfl | rfl | rfl | rfl | rfl | rfl | rfl | rfl | rfl | rfl | rfl | rfl | rfl | rfl | rfl | rfl <;>
      (go_enter Tryd.func38, Tryd.ntmps38; go_wp2; go_ret; exact ⟨rfl, rfl⟩)
  · have hm : c ∉ wsL := by simpa [wsJ] using h
    have hf : wsJ c = false := by simpa using h
    rw [hf]
    simp only [wsL, List.mem_cons, List.not_mem_nil, or_false, not_or] at hm
    obtain ⟨h1, h2, h3, h4, h5, h6, h7, h8, h9, h10, h11, h12, h13, h14, h15, h16, h17, h18, h19, h20, h21⟩ := hm
    clear h hf
    go_enter Tryd.func38, Tryd.ntmps38; go_wp2; go_ret; exact ⟨rfl, rfl⟩
/-- the tables hold in a world behind -/
theorem tabs_below {w w' : World} (hT : Lib.Utf8Tabs 0 1 w) (hb : Below w.heap.size w w') : Lib.Utf8Tabs 0 1 w' := by
  refine ⟨fun c hc => ?_, fun i hi => ?_⟩
  · have h := hT.1 c hc
    rw [hb.cell (block_lt_of_cell h)]; exact h
  · obtain ⟨h1, h2⟩ := hT.2 i hi
    exact ⟨by rw [hb.cell (block_lt_of_cell h1)]; exact h1, by rw [hb.cell (block_lt_of_cell h2)]; exact h2⟩
theorem tabs_drew {w : World} (hT : Lib.Utf8Tabs 0 1 w) : Lib.Utf8Tabs 0 1 w.drew := ⟨hT.1, hT.2⟩
theorem dec37 (s : ByteArray) (w : World) (hT : Lib.Utf8Tabs 0 1 w) (C K : Nat) (hC : (decodeGo s).1 = C) (hK : (decodeGo s).2 = K) :
    Calls Tryd.prog 37 #[.string s] w fun e w' => e = .returned (.tuple #[.int .i32 C, .int .i64 K]) ∧ Below w.heap.size w w' := by
  subst hC hK
  exact Tryd.utf8_DecodeRuneInString s w hT
/-- a byte of s, or 0 behind its end -/
def byt (s : ByteArray) (i : Nat) : Nat := (s.get! i).toNat
theorem byt_lt (s : ByteArray) (i : Nat) : byt s i < 256 := UInt8.toNat_lt _
theorem byt_at (s : ByteArray) (i : Nat) (h : i < s.size) : (s[i]'h).toNat = byt s i := by
  have e2 : s.get! i = s[i]'h := by
    simp only [ByteArray.get!, ByteArray.getElem_eq_getElem_data]
    exact getElem!_pos s.data i (by simpa using h)
  rw [byt, e2]
theorem ext_byt (s : ByteArray) (i j : Nat) : ((s.extract i s.size).get! j).toNat = byt s (i + j) := by
  by_cases h : i + j < s.size
  · have h1 : j < (s.extract i s.size).size := by simp; omega
    have e1 : (s.extract i s.size).get! j = (s.extract i s.size)[j]'h1 := by
      simp only [ByteArray.get!, ByteArray.getElem_eq_getElem_data]
      exact getElem!_pos (s.extract i s.size).data j (by simpa using h1)
    rw [e1, ByteArray.getElem_extract, byt_at s (i + j) h]
  · have h1 : ¬ j < (s.extract i s.size).data.size := by
      show ¬ j < (s.extract i s.size).size
      simp; omega
    have h2 : ¬ i + j < s.data.size := h
    have e1 : (s.extract i s.size).get! j = default := getElem!_neg (s.extract i s.size).data j h1
    have e2 : s.get! (i + j) = default := getElem!_neg s.data (i + j) h2
    rw [e1, byt, e2]
/-- the rune at place i -/
theorem dec_at (s : ByteArray) (i : Nat) (h : i < s.size) : decodeGo (s.extract i s.size) = decodeN (s.size - i) (byt s i) (byt s (i + 1)) (byt s (i + 2)) (byt s (i + 3)) := by
  unfold decodeGo
  rw [if_neg (by simp; omega), decode_at]
  simp only [Nat.sub_zero, Nat.zero_add, ext_byt, Nat.add_zero]
  have e : (s.extract i s.size).size = s.size - i := by simp
  rw [e]
theorem decN_wid (n b0 b1 b2 b3 : Nat) (h : 1 ≤ n) : 1 ≤ (decodeN n b0 b1 b2 b3).2 ∧ (decodeN n b0 b1 b2 b3).2 ≤ n ∧ (decodeN n b0 b1 b2 b3).2 ≤ 4 := by
  unfold decodeN
  repeat' split
  all_goals (simp; try omega)
theorem dec_wid (s : ByteArray) (i : Nat) (h : i < s.size) : 1 ≤ (decodeGo (s.extract i s.size)).2 ∧ i + (decodeGo (s.extract i s.size)).2 ≤ s.size ∧ (decodeGo (s.extract i s.size)).2 ≤ 4 := by
  rw [dec_at s i h]
  have := decN_wid (s.size - i) (byt s i) (byt s (i + 1)) (byt s (i + 2)) (byt s (i + 3)) (by omega)
  omega
end Go.Proofs.YtcnembabenlheaaDoor
