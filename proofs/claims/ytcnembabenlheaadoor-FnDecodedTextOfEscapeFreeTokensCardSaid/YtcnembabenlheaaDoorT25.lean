/-
  Token.DecodedText on runes without a backslash.
-/
import Derived.Test.YtcnembabenlheaaDoorT24
import Derived.Deep.DeepCutAuto
namespace Go.Proofs.YtcnembabenlheaaDoor
open Go.ChangeShapes Go.WideShapes Go.ChangeAt Go.RowKit
open Go.Lib (encodeRuneZ encodeRuneZ_length)
set_option linter.unusedVariables false
theorem split0 (rs : List Int) (h : ¬ ∀ r ∈ rs, r ≠ 0) : ∃ rs1 rs2, rs = rs1 ++ 0 :: rs2 ∧ ∀ r ∈ rs1, r ≠ 0 := by
  induction rs with
  | nil => exact absurd (by simp) h
  | cons r rs ih =>
    by_cases h0 : r = 0
    · exact ⟨[], rs, by rw [h0]; rfl, by simp⟩
    · obtain ⟨a, b, e, h2⟩ := ih (fun hh => h (by
        intro x hx
        rcases List.mem_cons.1 hx with rfl | hx
        · exact h0
        · exact hh x hx))
      refine ⟨r :: a, b, by rw [e]; rfl, ?_⟩
      intro x hx
      rcases List.mem_cons.1 hx with rfl | hx
      · exact h0
      · exact h2 x hx
theorem de35 (rs : List Int) (h92 : ∀ r ∈ rs, r ≠ 92) (hlen : rs.length ≤ 65540) (S : ByteArray) (hS : strOfNums (encs rs) = S) (hs : S.size ≤ 1048576) (w : World) (hT : Lib.Utf8Tabs 0 1 w) :
    Calls Tryd.prog 35 #[.string S] w fun e w' => e = .returned (.string (strOfNums (encs (rs.map clean)))) ∧ Below w.heap.size w w' := by
  by_cases h : ∀ r ∈ rs, r ≠ 0
  · refine (de35_id rs h92 h S hS hs w).mono ?_
    rintro e w' ⟨rfl, rfl⟩
    exact ⟨by rw [clean_same rs h, hS], Below.refl _ _⟩
  · obtain ⟨a, b, rfl, h2⟩ := split0 rs h
    exact de35_nul a b h92 h2 hlen S hS hs w hT
theorem en34 (st ln : Int) (h0 : 0 ≤ st) (h1 : 0 ≤ ln) (h2 : st + ln ≤ 2147483647) (w : World) : Calls Tryd.prog 34 #[.agg #[.int .i32 st, .int .i32 ln]] w fun e w' => e = .returned (.int .i32 (st + ln)) ∧ Below w.heap.size w w' := by
  go_enter Tryd.func34, Tryd.ntmps34
  go_wp2_with fail
  go_ret
  exact ⟨rfl, (Below.refl w.heap.size w).alloc (Nat.le_refl _) _⟩
theorem tokc (w : World) (A : Array Value) (i : Nat) : (w.alloc (.cells A 64)).cell? ⟨w.heap.size, i, none⟩ = A[i]? := by
  have h := heap_alloc_new w (.cells A 64)
  simp only [World.cell?, h]; rfl
/-- behind the token's text: R is cut out -/
def AftR (w : World) (kind : Int) (wx : World) : Prop := Below w.heap.size w wx ∧ wx.cell? ⟨w.heap.size, 3, none⟩ = some (.int .u8 kind)
set_option maxRecDepth 100000 in
set_option maxHeartbeats 4000000 in
theorem dt30_id (Cn R : ByteArray) (st ln E : Nat) (un kind fl : Int) (hk : kind = 29 ∨ kind = 26) (hC : Cn.size ≤ 1048576) (hE : st + ln = E) (hsl : E ≤ Cn.size) (hR : Cn.extract st E = R) (w : World) (hT : Lib.Utf8Tabs 0 1 w) (res : ByteArray)
    (H : ∀ W, Lib.Utf8Tabs 0 1 W → Calls Tryd.prog 35 #[.string R] W fun e w' => e = .returned (.string res) ∧ Below W.heap.size W w') :
    Calls Tryd.prog 30 #[.agg #[.int .i32 st, .int .i32 ln, .int .u16 un, .int .u8 kind, .int .u8 fl], .string Cn] w fun e w' => e = .returned (.string res) ∧ Below w.heap.size w w' := by
  have hE' : (st : Int) + (ln : Int) = (E : Int) := by omega
  have hl1 : st ≤ E := by omega
  have HT := Lib.hid hT; have HH := Lib.hid H
  have HN := Lib.hid (en34 st ln (by omega) (by omega) (by omega))
  rw [hE'] at HN
  have hE2 : (E : Int) ≤ 2147483647 := by omega
  clear hT H hE hE'
  go_enter Tryd.func30, Tryd.ntmps30
  go_wp2_with fail
  go_cut [5] (fun v wx => v = .string R ∧ Hid (AftR w kind wx))
  case first =>
    go_region_with ((go_at_call 34; refine (HN.out _).mono ?_; rintro e w1 ⟨rfl, be⟩; have KB := Lib.hid (((Below.refl w.heap.size w).alloc (Nat.le_refl _) (Obj.cells #[.int .i32 st, .int .i32 ln, .int .u16 un, .int .u8 kind, .int .u8 fl] 64)).drew.trans (be.mono (by simp [World.drew]))); have e0 : w1.cell? ⟨w.heap.size, 0, none⟩ = some (.int .i32 st) := (be.cell (p := ⟨w.heap.size, 0, none⟩) (by simp [World.drew])).trans (show (w.alloc (.cells #[.int .i32 st, .int .i32 ln, .int .u16 un, .int .u8 kind, .int .u8 fl] 64)).drew.cell? ⟨w.heap.size, 0, none⟩ = some (.int .i32 st) from tokc w #[.int .i32 st, .int .i32 ln, .int .u16 un, .int .u8 kind, .int .u8 fl] 0); have E3 := Lib.hid (show w1.cell? ⟨w.heap.size, 3, none⟩ = some (.int .u8 kind) from (be.cell (p := ⟨w.heap.size, 3, none⟩) (by simp [World.drew])).trans (show (w.alloc (.cells #[.int .i32 st, .int .i32 ln, .int .u16 un, .int .u8 kind, .int .u8 fl] 64)).drew.cell? ⟨w.heap.size, 3, none⟩ = some (.int .u8 kind) from tokc w #[.int .i32 st, .int .i32 ln, .int .u16 un, .int .u8 kind, .int .u8 fl] 3)); clear be))
    all_goals
      go_wp2_with fail
      go_meet
      exact ⟨rfl, Lib.hid ⟨KB.out, E3.out⟩⟩
  case rest =>
    obtain ⟨rfl, hA⟩ := hcut
    obtain ⟨hB, e3⟩ := hA.out
    have KB := Lib.hid hB
    clear hB hA hR
    rcases hk with rfl | rfl
    all_goals
      go_wp2_with fail
      refine (HH.out _ (tabs_below HT.out KB.out)).mono ?_
      rintro e w2 ⟨rfl, be⟩
      have K2 := Lib.hid (KB.out.trans (be.mono KB.out.size))
      clear be
      dsimp only
      go_wp2_with fail
      go_ret
      exact ⟨rfl, K2.out⟩
set_option maxRecDepth 100000 in
set_option maxHeartbeats 4000000 in
theorem dt30_one (Cn R : ByteArray) (st ln E : Nat) (un kind fl : Int) (hk : kind = 28 ∨ kind = 1) (hC : Cn.size ≤ 1048576) (hE : st + ln = E) (hsl : E ≤ Cn.size) (hR : Cn.extract st E = R) (w : World) (hT : Lib.Utf8Tabs 0 1 w) (res : ByteArray)
    (I : ByteArray) (n : Nat) (hn : R.size = n) (hn1 : 1 ≤ n) (hn2 : n ≤ 1048576) (hI : R.extract 1 n = I) (H : ∀ W, Lib.Utf8Tabs 0 1 W → Calls Tryd.prog 35 #[.string I] W fun e w' => e = .returned (.string res) ∧ Below W.heap.size W w') :
    Calls Tryd.prog 30 #[.agg #[.int .i32 st, .int .i32 ln, .int .u16 un, .int .u8 kind, .int .u8 fl], .string Cn] w fun e w' => e = .returned (.string res) ∧ Below w.heap.size w w' := by
  have hE' : (st : Int) + (ln : Int) = (E : Int) := by omega
  have hl1 : st ≤ E := by omega
  have HT := Lib.hid hT; have HH := Lib.hid H
  have HN := Lib.hid (en34 st ln (by omega) (by omega) (by omega))
  rw [hE'] at HN
  have hE2 : (E : Int) ≤ 2147483647 := by omega
  have HNN := Lib.hid hn
  clear hT H hE hE' hn
  go_enter Tryd.func30, Tryd.ntmps30
  go_wp2_with fail
  go_cut [5] (fun v wx => v = .string R ∧ Hid (AftR w kind wx))
  case first =>
    go_region_with ((go_at_call 34; refine (HN.out _).mono ?_; rintro e w1 ⟨rfl, be⟩; have KB := Lib.hid (((Below.refl w.heap.size w).alloc (Nat.le_refl _) (Obj.cells #[.int .i32 st, .int .i32 ln, .int .u16 un, .int .u8 kind, .int .u8 fl] 64)).drew.trans (be.mono (by simp [World.drew]))); have e0 : w1.cell? ⟨w.heap.size, 0, none⟩ = some (.int .i32 st) := (be.cell (p := ⟨w.heap.size, 0, none⟩) (by simp [World.drew])).trans (show (w.alloc (.cells #[.int .i32 st, .int .i32 ln, .int .u16 un, .int .u8 kind, .int .u8 fl] 64)).drew.cell? ⟨w.heap.size, 0, none⟩ = some (.int .i32 st) from tokc w #[.int .i32 st, .int .i32 ln, .int .u16 un, .int .u8 kind, .int .u8 fl] 0); have E3 := Lib.hid (show w1.cell? ⟨w.heap.size, 3, none⟩ = some (.int .u8 kind) from (be.cell (p := ⟨w.heap.size, 3, none⟩) (by simp [World.drew])).trans (show (w.alloc (.cells #[.int .i32 st, .int .i32 ln, .int .u16 un, .int .u8 kind, .int .u8 fl] 64)).drew.cell? ⟨w.heap.size, 3, none⟩ = some (.int .u8 kind) from tokc w #[.int .i32 st, .int .i32 ln, .int .u16 un, .int .u8 kind, .int .u8 fl] 3)); clear be))
    all_goals
      go_wp2_with fail
      go_meet
      exact ⟨rfl, Lib.hid ⟨KB.out, E3.out⟩⟩
  case rest =>
    obtain ⟨rfl, hA⟩ := hcut
    obtain ⟨hB, e3⟩ := hA.out
    have KB := Lib.hid hB
    clear hB hA hR
    have hn := HNN.out
    rcases hk with rfl | rfl
    all_goals
      go_wp2_with fail
      refine (HH.out _ (tabs_below HT.out KB.out)).mono ?_
      rintro e w2 ⟨rfl, be⟩
      have K2 := Lib.hid (KB.out.trans (be.mono KB.out.size))
      clear be
      dsimp only
      go_wp2_with fail
      go_ret
      exact ⟨rfl, K2.out⟩
set_option maxRecDepth 100000 in
set_option maxHeartbeats 4000000 in
theorem dt30_fn (Cn R : ByteArray) (st ln E : Nat) (un kind fl : Int) (hk : kind = 27) (hC : Cn.size ≤ 1048576) (hE : st + ln = E) (hsl : E ≤ Cn.size) (hR : Cn.extract st E = R) (w : World) (hT : Lib.Utf8Tabs 0 1 w) (res : ByteArray)
    (I : ByteArray) (n M : Nat) (hn : R.size = n) (hM : M + 1 = n) (hn2 : n ≤ 1048576) (hI : R.extract 0 M = I) (H : ∀ W, Lib.Utf8Tabs 0 1 W → Calls Tryd.prog 35 #[.string I] W fun e w' => e = .returned (.string res) ∧ Below W.heap.size W w') :
    Calls Tryd.prog 30 #[.agg #[.int .i32 st, .int .i32 ln, .int .u16 un, .int .u8 kind, .int .u8 fl], .string Cn] w fun e w' => e = .returned (.string res) ∧ Below w.heap.size w w' := by
  have HKD := Lib.hid hk
  clear hk
  have hE' : (st : Int) + (ln : Int) = (E : Int) := by omega
  have hl1 : st ≤ E := by omega
  have HT := Lib.hid hT; have HH := Lib.hid H
  have HN := Lib.hid (en34 st ln (by omega) (by omega) (by omega))
  rw [hE'] at HN
  have hE2 : (E : Int) ≤ 2147483647 := by omega
  have HNN := Lib.hid hn
  have hM' : (n : Int) - 1 = (M : Int) := by omega
  have hMn : M ≤ n := by omega
  clear hT H hE hE' hn hM
  go_enter Tryd.func30, Tryd.ntmps30
  go_wp2_with fail
  go_cut [5] (fun v wx => v = .string R ∧ Hid (AftR w kind wx))
  case first =>
    go_region_with ((go_at_call 34; refine (HN.out _).mono ?_; rintro e w1 ⟨rfl, be⟩; have KB := Lib.hid (((Below.refl w.heap.size w).alloc (Nat.le_refl _) (Obj.cells #[.int .i32 st, .int .i32 ln, .int .u16 un, .int .u8 kind, .int .u8 fl] 64)).drew.trans (be.mono (by simp [World.drew]))); have e0 : w1.cell? ⟨w.heap.size, 0, none⟩ = some (.int .i32 st) := (be.cell (p := ⟨w.heap.size, 0, none⟩) (by simp [World.drew])).trans (show (w.alloc (.cells #[.int .i32 st, .int .i32 ln, .int .u16 un, .int .u8 kind, .int .u8 fl] 64)).drew.cell? ⟨w.heap.size, 0, none⟩ = some (.int .i32 st) from tokc w #[.int .i32 st, .int .i32 ln, .int .u16 un, .int .u8 kind, .int .u8 fl] 0); have E3 := Lib.hid (show w1.cell? ⟨w.heap.size, 3, none⟩ = some (.int .u8 kind) from (be.cell (p := ⟨w.heap.size, 3, none⟩) (by simp [World.drew])).trans (show (w.alloc (.cells #[.int .i32 st, .int .i32 ln, .int .u16 un, .int .u8 kind, .int .u8 fl] 64)).drew.cell? ⟨w.heap.size, 3, none⟩ = some (.int .u8 kind) from tokc w #[.int .i32 st, .int .i32 ln, .int .u16 un, .int .u8 kind, .int .u8 fl] 3)); clear be))
    all_goals
      go_wp2_with fail
      go_meet
      exact ⟨rfl, Lib.hid ⟨KB.out, E3.out⟩⟩
  case rest =>
    obtain ⟨rfl, hA⟩ := hcut
    obtain ⟨hB, e3⟩ := hA.out
    have KB := Lib.hid hB
    clear hB hA hR
    have hn := HNN.out
    have hk := HKD.out
    subst hk
    · skip
      go_wp2_with fail
      refine (HH.out _ (tabs_below HT.out KB.out)).mono ?_
      rintro e w2 ⟨rfl, be⟩
      have K2 := Lib.hid (KB.out.trans (be.mono KB.out.size))
      clear be
      dsimp only
      go_wp2_with fail
      go_ret
      exact ⟨rfl, K2.out⟩
set_option maxRecDepth 100000 in
set_option maxHeartbeats 4000000 in
theorem dt30_str (Cn R : ByteArray) (st ln E : Nat) (un kind fl : Int) (hk : kind = 36) (hC : Cn.size ≤ 1048576) (hE : st + ln = E) (hsl : E ≤ Cn.size) (hR : Cn.extract st E = R) (w : World) (hT : Lib.Utf8Tabs 0 1 w) (res : ByteArray)
    (I : ByteArray) (n M : Nat) (hn : R.size = n) (hM : M + 1 = n) (hM1 : 1 ≤ M) (hn2 : n ≤ 1048576) (hI : R.extract 1 M = I) (H : ∀ W, Lib.Utf8Tabs 0 1 W → Calls Tryd.prog 35 #[.string I] W fun e w' => e = .returned (.string res) ∧ Below W.heap.size W w') :
    Calls Tryd.prog 30 #[.agg #[.int .i32 st, .int .i32 ln, .int .u16 un, .int .u8 kind, .int .u8 fl], .string Cn] w fun e w' => e = .returned (.string res) ∧ Below w.heap.size w w' := by
  have HKD := Lib.hid hk
  clear hk
  have hE' : (st : Int) + (ln : Int) = (E : Int) := by omega
  have hl1 : st ≤ E := by omega
  have HT := Lib.hid hT; have HH := Lib.hid H
  have HN := Lib.hid (en34 st ln (by omega) (by omega) (by omega))
  rw [hE'] at HN
  have hE2 : (E : Int) ≤ 2147483647 := by omega
  have HNN := Lib.hid hn
  have hM' : (n : Int) - 1 = (M : Int) := by omega
  have hMn : M ≤ n := by omega
  clear hT H hE hE' hn hM
  go_enter Tryd.func30, Tryd.ntmps30
  go_wp2_with fail
  go_cut [5] (fun v wx => v = .string R ∧ Hid (AftR w kind wx))
  case first =>
    go_region_with ((go_at_call 34; refine (HN.out _).mono ?_; rintro e w1 ⟨rfl, be⟩; have KB := Lib.hid (((Below.refl w.heap.size w).alloc (Nat.le_refl _) (Obj.cells #[.int .i32 st, .int .i32 ln, .int .u16 un, .int .u8 kind, .int .u8 fl] 64)).drew.trans (be.mono (by simp [World.drew]))); have e0 : w1.cell? ⟨w.heap.size, 0, none⟩ = some (.int .i32 st) := (be.cell (p := ⟨w.heap.size, 0, none⟩) (by simp [World.drew])).trans (show (w.alloc (.cells #[.int .i32 st, .int .i32 ln, .int .u16 un, .int .u8 kind, .int .u8 fl] 64)).drew.cell? ⟨w.heap.size, 0, none⟩ = some (.int .i32 st) from tokc w #[.int .i32 st, .int .i32 ln, .int .u16 un, .int .u8 kind, .int .u8 fl] 0); have E3 := Lib.hid (show w1.cell? ⟨w.heap.size, 3, none⟩ = some (.int .u8 kind) from (be.cell (p := ⟨w.heap.size, 3, none⟩) (by simp [World.drew])).trans (show (w.alloc (.cells #[.int .i32 st, .int .i32 ln, .int .u16 un, .int .u8 kind, .int .u8 fl] 64)).drew.cell? ⟨w.heap.size, 3, none⟩ = some (.int .u8 kind) from tokc w #[.int .i32 st, .int .i32 ln, .int .u16 un, .int .u8 kind, .int .u8 fl] 3)); clear be))
    all_goals
      go_wp2_with fail
      go_meet
      exact ⟨rfl, Lib.hid ⟨KB.out, E3.out⟩⟩
  case rest =>
    obtain ⟨rfl, hA⟩ := hcut
    obtain ⟨hB, e3⟩ := hA.out
    have KB := Lib.hid hB
    clear hB hA hR
    have hn := HNN.out
    have f1 : (1 : Int) ≤ (M : Int) := by omega
    have f2 : (M : Int) ≤ (n : Int) := by omega
    have hk := HKD.out
    subst hk
    · skip
      go_wp2_with fail
      refine (HH.out _ (tabs_below HT.out KB.out)).mono ?_
      rintro e w2 ⟨rfl, be⟩
      have K2 := Lib.hid (KB.out.trans (be.mono KB.out.size))
      clear be
      dsimp only
      go_wp2_with fail
      go_ret
      exact ⟨rfl, K2.out⟩
set_option maxRecDepth 100000 in
set_option maxHeartbeats 4000000 in
theorem dt30_un (Cn R : ByteArray) (st ln E : Nat) (un kind fl : Int) (hk : kind = 2) (hC : Cn.size ≤ 1048576) (hE : st + ln = E) (hsl : E ≤ Cn.size) (hR : Cn.extract st E = R) (w : World) (hT : Lib.Utf8Tabs 0 1 w) :
    Calls Tryd.prog 30 #[.agg #[.int .i32 st, .int .i32 ln, .int .u16 un, .int .u8 kind, .int .u8 fl], .string Cn] w fun e w' => e = .returned (.string R) ∧ Below w.heap.size w w' := by
  have HKD := Lib.hid hk
  clear hk
  have hE' : (st : Int) + (ln : Int) = (E : Int) := by omega
  have hl1 : st ≤ E := by omega
  have HT := Lib.hid hT
  have HN := Lib.hid (en34 st ln (by omega) (by omega) (by omega))
  rw [hE'] at HN
  have hE2 : (E : Int) ≤ 2147483647 := by omega
  clear hT hE hE'
  go_enter Tryd.func30, Tryd.ntmps30
  go_wp2_with fail
  go_cut [5] (fun v wx => v = .string R ∧ Hid (AftR w kind wx))
  case first =>
    go_region_with ((go_at_call 34; refine (HN.out _).mono ?_; rintro e w1 ⟨rfl, be⟩; have KB := Lib.hid (((Below.refl w.heap.size w).alloc (Nat.le_refl _) (Obj.cells #[.int .i32 st, .int .i32 ln, .int .u16 un, .int .u8 kind, .int .u8 fl] 64)).drew.trans (be.mono (by simp [World.drew]))); have e0 : w1.cell? ⟨w.heap.size, 0, none⟩ = some (.int .i32 st) := (be.cell (p := ⟨w.heap.size, 0, none⟩) (by simp [World.drew])).trans (show (w.alloc (.cells #[.int .i32 st, .int .i32 ln, .int .u16 un, .int .u8 kind, .int .u8 fl] 64)).drew.cell? ⟨w.heap.size, 0, none⟩ = some (.int .i32 st) from tokc w #[.int .i32 st, .int .i32 ln, .int .u16 un, .int .u8 kind, .int .u8 fl] 0); have E3 := Lib.hid (show w1.cell? ⟨w.heap.size, 3, none⟩ = some (.int .u8 kind) from (be.cell (p := ⟨w.heap.size, 3, none⟩) (by simp [World.drew])).trans (show (w.alloc (.cells #[.int .i32 st, .int .i32 ln, .int .u16 un, .int .u8 kind, .int .u8 fl] 64)).drew.cell? ⟨w.heap.size, 3, none⟩ = some (.int .u8 kind) from tokc w #[.int .i32 st, .int .i32 ln, .int .u16 un, .int .u8 kind, .int .u8 fl] 3)); clear be))
    all_goals
      go_wp2_with fail
      go_meet
      exact ⟨rfl, Lib.hid ⟨KB.out, E3.out⟩⟩
  case rest =>
    obtain ⟨rfl, hA⟩ := hcut
    obtain ⟨hB, e3⟩ := hA.out
    have KB := Lib.hid hB
    clear hB hA hR
    have hk := HKD.out
    subst hk
    go_wp2_with fail
    go_ret
    exact ⟨rfl, KB.out⟩
end Go.Proofs.YtcnembabenlheaaDoor
