/-
  CharFreq.Scan: the histogram behind the pointer becomes the scanned one; nothing else that was there turns.
-/
import Derived.Test.YtnhefnccjlbeiaaB1
import Derived.Test.YtnhefnccjlbeiaaArrEq
import Derived.Laws.Rows
import Derived.Laws.AppendOwn
import Derived.RegionTactic
namespace Go.Proofs.Ytnhefnccjlbeiaa
open Go.ChangeShapes Go.WideShapes Go.ChangeAt Go.RowKit
set_option linter.unusedVariables false
def slotN (c : Nat) : Option Nat :=
  if 97 ≤ c ∧ c ≤ 122 then some (c - 97) else if 65 ≤ c ∧ c ≤ 90 then some (c - 39) else if 48 ≤ c ∧ c ≤ 57 then some (c + 4) else if c = 95 then some 62 else if c = 36 then some 63 else none
theorem slot_lt {c j : Nat} (h : slotN c = some j) : j < 64 := by
  unfold slotN at h
  repeat' split at h
  all_goals (first | (injection h with h; omega) | cases h)
def bump (d : Int) (zs : List Int) (c : UInt8) : List Int := match slotN c.toNat with | some j => zs.set j (wrap32 (zs.getD j 0 + d)) | none => zs
def scanL (d : Int) (zs : List Int) (l : List UInt8) : List Int := l.foldl (bump d) zs
theorem bump_len (d : Int) (zs : List Int) (c : UInt8) : (bump d zs c).length = zs.length := by unfold bump; split <;> simp
theorem scan_len (d : Int) (l : List UInt8) : ∀ zs : List Int, (scanL d zs l).length = zs.length := by
  induction l with
  | nil => intro zs; rfl
  | cons c l ih => intro zs; show (scanL d (bump d zs c) l).length = _; rw [ih, bump_len]
theorem scan_snoc (d : Int) (zs : List Int) (s : ByteArray) (k : Nat) (h : k < s.size) : scanL d zs (s.data.toList.take (k + 1)) = bump d (scanL d zs (s.data.toList.take k)) (s[k]'h) := by
  rw [List.take_succ_eq_append_getElem (by simpa using h)]
  unfold scanL
  rw [List.foldl_append]
  rfl
def Hist (w : World) (g : Nat) (zs : List Int) : Prop := w.heap[g]? = some (.cells (arrV .i32 zs) 30 (0, 0)) ∧ zs.length = 64
theorem Hist.cell {w : World} {g : Nat} {zs : List Int} (h : Hist w g zs) {j : Nat} (hj : j < 64) : w.cell? ⟨g, j, none⟩ = some (.int .i32 (zs.getD j 0)) := by
  have hl : j < zs.length := by rw [h.2]; exact hj
  have : (arrV .i32 zs)[j]? = some (.int .i32 (zs.getD j 0)) := by simp [hl]
  simp only [World.cell?, h.1]
  exact this
theorem Hist.frozen {w : World} {g : Nat} {zs : List Int} (h : Hist w g zs) (j : Nat) : w.frozen? ⟨g, j, none⟩ = false := by
  simp [World.frozen?, h.1]
theorem Hist.lt {w : World} {g : Nat} {zs : List Int} (h : Hist w g zs) : g < w.heap.size := (Array.getElem?_eq_some_iff.1 h.1).1
theorem Hist.set {w : World} {g : Nat} {zs : List Int} (h : Hist w g zs) (j : Nat) (v : Int) : Hist (w.setCell ⟨g, j, none⟩ (.int .i32 v)) g (zs.set j v) := by
  refine ⟨?_, by simp [h.2]⟩
  rw [heap_setCell_same w g j (arrV .i32 zs) 30 (.int .i32 v) h.1]
  simp [arrV, List.map_set]
theorem grownby_refl (w : World) (row : Option Nat) : w.grownBy w row := ⟨rfl, rfl, rfl, Nat.le_refl _, fun _ _ _ => rfl⟩
theorem grownby_set {a w : World} {g : Nat} (h : a.grownBy w (some g)) (i : Nat) (u : Value) : a.grownBy (w.setCell ⟨g, i, none⟩ u) (some g) :=
  ⟨h.os, h.tape, h.output, by simpa [World.setCell] using h.size, fun k hi hne => (Below.heap_setCell w ⟨g, i, none⟩ u k (by rintro rfl; exact hne rfl)).trans (h.block k hi hne)⟩
theorem grownby_drew {a w : World} {row : Option Nat} (h : a.grownBy w row) : a.grownBy w.drew row := ⟨h.os, h.tape, h.output, h.size, h.block⟩
theorem hist_drew {w : World} {g : Nat} {zs : List Int} (h : Hist w g zs) : Hist w.drew g zs := h
set_option maxRecDepth 100000 in
set_option maxHeartbeats 4000000 in
theorem scan_any (w : World) (g : Nat) (zs : List Int) (s : ByteArray) (d : Int) (hs : s.size ≤ maxLen) (h : Hist w g zs) (hd : (d == 0) = false) :
    Calls Try.prog 19 #[.pointer (some ⟨g, 0, none⟩), .string s, .int .i32 d] w fun e w' => e = .returned (.tuple #[]) ∧ Hist w' g (scanL d zs s.data.toList) ∧ w.grownBy w' (some g) := by
  unfold maxLen at hs
  have HH := Lib.hid h
  clear h
  go_enter Try.func19, Try.ntmps19
  go_wp2
  go_loopw [6] (fun i wr => ∃ k : Nat, k ≤ s.size ∧ i = .int .i64 k ∧ Hist wr g (scanL d zs (s.data.toList.take k)) ∧ w.grownBy wr (some g)) (fun i _ => s.size - (intOf i).toNat)
  case atStart => exact ⟨0, by omega, rfl, HH.out, grownby_refl _ _⟩
  case round =>
    obtain ⟨k, hk, rfl, hr, hg⟩ := hrel
    by_cases hlt : k < s.size
    · have hsn : scanL d zs (s.data.toList.take (k + 1)) = match slotN (s[k]'hlt).toNat with | some j => (scanL d zs (s.data.toList.take k)).set j (wrap32 ((scanL d zs (s.data.toList.take k)).getD j 0 + d)) | none => scanL d zs (s.data.toList.take k) := scan_snoc d zs s k hlt
      have hfr := hr.frozen
      generalize hz : scanL d zs (s.data.toList.take k) = ys at *
      have hc := fun j (hj : j < 64) => hr.cell hj
      have hn : (s[k]'hlt).toNat < 256 := (s[k]'hlt).toNat_lt
      generalize hcc : (s[k]'hlt).toNat = c at *
      have HS := Lib.hid hsn; have HR := Lib.hid hr; have HG := Lib.hid hg; have HC := Lib.hid hc; have HF := Lib.hid hfr
      clear hsn hr hg hz hc hfr
      by_cases c1 : 97 ≤ c ∧ c ≤ 122
      · have hsl : slotN c = some (c - 97) := by unfold slotN; rw [if_pos c1]
        have HZ := Lib.hid (HS.out.trans (by rw [hsl]))
        clear hsl HS
        obtain ⟨c11, c12⟩ := c1
        have q := HC.out (c - 97) (by omega)
        have qf := HF.out (c - 97)
        generalize hv : ys.getD (c - 97) 0 = v at q
        have HV := Lib.hid hv
        clear hv
        go_wp2
        go_region
        go_wp2
        go_roundw
        case rel => exact ⟨k + 1, by omega, by go_num, hist_drew (by rw [HZ.out, HV.out]; exact HR.out.set _ _), grownby_drew (grownby_set HG.out _ _)⟩
        case measure => simp [intOf]; omega
      by_cases c2 : 65 ≤ c ∧ c ≤ 90
      · have hsl : slotN c = some (c - 39) := by unfold slotN; rw [if_neg c1, if_pos c2]
        have HZ := Lib.hid (HS.out.trans (by rw [hsl]))
        clear hsl HS
        clear c1
        obtain ⟨c21, c22⟩ := c2
        have q := HC.out (c - 39) (by omega)
        have qf := HF.out (c - 39)
        generalize hv : ys.getD (c - 39) 0 = v at q
        have HV := Lib.hid hv
        clear hv
        go_wp2
        go_region
        go_wp2
        go_roundw
        case rel => exact ⟨k + 1, by omega, by go_num, hist_drew (by rw [HZ.out, HV.out]; exact HR.out.set _ _), grownby_drew (grownby_set HG.out _ _)⟩
        case measure => simp [intOf]; omega
      by_cases c3 : 48 ≤ c ∧ c ≤ 57
      · have hsl : slotN c = some (c + 4) := by unfold slotN; rw [if_neg c1, if_neg c2, if_pos c3]
        have HZ := Lib.hid (HS.out.trans (by rw [hsl]))
        clear hsl HS
        clear c1 c2
        obtain ⟨c31, c32⟩ := c3
        have q := HC.out (c + 4) (by omega)
        have qf := HF.out (c + 4)
        generalize hv : ys.getD (c + 4) 0 = v at q
        have HV := Lib.hid hv
        clear hv
        go_wp2
        go_region
        go_wp2
        go_roundw
        case rel => exact ⟨k + 1, by omega, by go_num, hist_drew (by rw [HZ.out, HV.out]; exact HR.out.set _ _), grownby_drew (grownby_set HG.out _ _)⟩
        case measure => simp [intOf]; omega
      by_cases c4 : c = 95
      · have hsl : slotN c = some (62) := by unfold slotN; rw [if_neg c1, if_neg c2, if_neg c3, if_pos c4]
        have HZ := Lib.hid (HS.out.trans (by rw [hsl]))
        clear hsl HS
        clear c1 c2 c3
        subst c4
        have q := HC.out (62) (by omega)
        have qf := HF.out (62)
        generalize hv : ys.getD (62) 0 = v at q
        have HV := Lib.hid hv
        clear hv
        go_wp2
        go_region
        go_wp2
        go_roundw
        case rel => exact ⟨k + 1, by omega, by go_num, hist_drew (by rw [HZ.out, HV.out]; exact HR.out.set _ _), grownby_drew (grownby_set HG.out _ _)⟩
        case measure => simp [intOf]; omega
      by_cases c5 : c = 36
      · have hsl : slotN c = some (63) := by unfold slotN; rw [if_neg c1, if_neg c2, if_neg c3, if_neg c4, if_pos c5]
        have HZ := Lib.hid (HS.out.trans (by rw [hsl]))
        clear hsl HS
        clear c1 c2 c3 c4
        subst c5
        have q := HC.out (63) (by omega)
        have qf := HF.out (63)
        generalize hv : ys.getD (63) 0 = v at q
        have HV := Lib.hid hv
        clear hv
        go_wp2
        go_region
        go_wp2
        go_roundw
        case rel => exact ⟨k + 1, by omega, by go_num, hist_drew (by rw [HZ.out, HV.out]; exact HR.out.set _ _), grownby_drew (grownby_set HG.out _ _)⟩
        case measure => simp [intOf]; omega
      · have hsl : slotN c = none := by unfold slotN; rw [if_neg c1, if_neg c2, if_neg c3, if_neg c4, if_neg c5]
        have HZ := Lib.hid (HS.out.trans (by rw [hsl]))
        clear hsl HS
        have e4 : ((c : Int) == 95) = false := by simp; omega
        have e5 : ((c : Int) == 36) = false := by simp; omega
        by_cases f1 : 97 ≤ c <;> by_cases f2 : c ≤ 122 <;> by_cases f3 : 65 ≤ c <;> by_cases f4 : c ≤ 90 <;> by_cases f5 : 48 ≤ c <;> by_cases f6 : c ≤ 57 <;> (try omega) <;>
         (clear c1 c2 c3 c4 c5
          go_wp2
          go_roundw
          case rel => exact ⟨k + 1, by omega, by go_num, by rw [HZ.out]; exact HR.out, HG.out⟩
          case measure => simp [intOf]; omega)
    · obtain rfl : k = s.size := by omega
      have HR := Lib.hid hr; have HG := Lib.hid hg
      clear hr hg
      go_wp2
      go_end0
      exact ⟨rfl, by have := HR.out; rwa [List.take_of_length_le (by simp)] at this, HG.out⟩
