/-
  The walk of FnConsumeIdentLikeMatchesModel.
-/
import Derived.Test.YtocciemgdikmjaaDoorQ12
import Derived.Test.YtocciemgdikmjaaDoorL2
namespace Go.Proofs.YtocciemgdikmjaaDoor
open Go.ChangeShapes Go.WideShapes Go.ChangeAt Go.RowKit
open Go.Lib (decodeN decode_at decodeGo)
set_option linter.unusedVariables false
theorem zb18 (s : ByteArray) (w0 : s.size ≤ maxLen) (w : World) : Calls Tryd.prog 18 #[.string s] w fun e w' => e = .returned (.bool (decide (s.size ≤ 1048576))) ∧ w = w' := by
  by_cases h : s.size ≤ 1048576
  · have HR := Lib.hid (show decide (s.size ≤ 1048576) = true from decide_eq_true h)
    go_enter Tryd.func18, Tryd.ntmps18
    go_wp2_with fail
    go_ret
    exact ⟨ret_bool HR.out.symm, rfl⟩
  · have HR := Lib.hid (show decide (s.size ≤ 1048576) = false from decide_eq_false h)
    go_enter Tryd.func18, Tryd.ntmps18
    go_wp2_with fail
    go_ret
    exact ⟨ret_bool HR.out.symm, rfl⟩
noncomputable def lexU (s : ByteArray) : Array Value := (Tryd.prog.built 73 [(2, .agg (srcC s))]).getD #[]
theorem lexU_10 (s : ByteArray) : (lexU s)[10]? = some (.string s) := by kernel_rfl
theorem lexU_32 (s : ByteArray) : (lexU s)[32]? = some (.int .i64 0) := by kernel_rfl
theorem lexU_33 (s : ByteArray) : (lexU s)[33]? = some (.int .i64 0) := by kernel_rfl
theorem lexU_35 (s : ByteArray) : (lexU s)[35]? = some (.int .i32 0) := by kernel_rfl
theorem lexU_36 (s : ByteArray) : (lexU s)[36]? = some (.int .i32 0) := by kernel_rfl
theorem lexU_37 (s : ByteArray) : (lexU s)[37]? = some (.int .i32 0) := by kernel_rfl
theorem lexU_38 (s : ByteArray) : (lexU s)[38]? = some (.int .u16 0) := by kernel_rfl
theorem lexU_39 (s : ByteArray) : (lexU s)[39]? = some (.int .u8 0) := by kernel_rfl
theorem lexU_40 (s : ByteArray) : (lexU s)[40]? = some (.int .u8 0) := by kernel_rfl
theorem lexU_cell (w : World) (s : ByteArray) (i : Nat) : (w.alloc (.cells (lexU s) 73)).cell? ⟨w.heap.size, i, none⟩ = (lexU s)[i]? := by
  have h : (w.alloc (.cells (lexU s) 73)).heap[w.heap.size]? = some (.cells (lexU s) 73) := by
    show (w.heap.push _)[w.heap.size]? = _
    simp
  simp only [World.cell?, h]; rfl
theorem lexU_CL (w : World) (s : ByteArray) : CL (w.alloc (.cells (lexU s) 73)) w.heap.size s 0 0 0 0 0 := by
  have h : (w.alloc (.cells (lexU s) 73)).heap[w.heap.size]? = some (.cells (lexU s) 73) := by
    show (w.heap.push _)[w.heap.size]? = _
    simp
  have hc := lexU_cell w s
  exact ⟨by simp, by rw [hc, lexU_10], by rw [hc, lexU_32], by rw [hc, lexU_33], by rw [hc, lexU_35], by rw [hc, lexU_36], by rw [hc, lexU_37], fun i => by simp only [World.frozen?, h]; simp⟩
theorem fresh_plU (w w2 : World) (s : ByteArray) (hT : Lib.Utf8Tabs 0 1 w) (ha : At w2 w.heap.size s 0 0) (hs : Stepped (w.alloc (.cells (lexU s) 73)) w2 w.heap.size) :
    Pl w w2 w.heap.size s (fun i => w2.cell? ⟨w.heap.size, i, none⟩) 0 0 0 0 0 := by
  have hb0 : Below w.heap.size w (w.alloc (.cells (lexU s) 73)) := (Below.refl w.heap.size w).alloc (Nat.le_refl _) _
  have hb := hb0.trans (stepped_below hs hb0.size (Nat.le_refl _))
  refine ⟨ha, ?_, ?_, ?_, fun i _ => rfl, hT, hb, Nat.le_refl _⟩
  · rw [hs.cells _ (by omega) (by omega) (by omega) (by omega), lexU_cell, lexU_38]
  · rw [hs.cells _ (by omega) (by omega) (by omega) (by omega), lexU_cell, lexU_39]
  · rw [hs.cells _ (by omega) (by omega) (by omega) (by omega), lexU_cell, lexU_40]
set_option maxRecDepth 100000 in
theorem nl20 (s : ByteArray) (w : World) : Calls Tryd.prog 20 #[.string s] w fun e w' => e = .returned (.pointer (some ⟨w.heap.size, 0, none⟩)) ∧ w' = w.alloc (.cells (lexU s) 73) := by
  go_enter Tryd.func20, Tryd.ntmps20
  go_wp2_with (first | (refine wpList_buildTo rfl 69 #[(2, .tmp 3)] rfl (some 4) rfl (srcC s) (by kernel_rfl) ?_) | (refine wpList_buildTo rfl 73 #[(2, .tmp 4)] rfl (some 5) rfl (lexU s) (by kernel_rfl) ?_))
  go_ret
  exact ⟨rfl, rfl⟩
theorem st21 {w : World} {g : Nat} {s : ByteArray} {cp : Int} (h : CL w g s 0 0 cp 0 0) (hT : Lib.Utf8Tabs 0 1 w) (hs : s.size ≤ 1048576) :
    Calls Tryd.prog 21 #[.pointer (some ⟨g, 0, none⟩)] w fun e w' => e = .returned (.tuple #[]) ∧ At w' g s 0 0 ∧ Stepped w w' g := by
  have HS := Lib.hid (step0 w g s cp h hT hs)
  clear h
  go_enter Tryd.func21, Tryd.ntmps21
  go_wp2_with fail
  refine (HS.out).mono ?_
  rintro e w2 ⟨rfl, ha, hst⟩
  dsimp only
  go_wp2_with fail
  go_end0
  exact ⟨rfl, ha, hst⟩
theorem ci22 {w0 w : World} {g : Nat} {s : ByteArray} {C : Nat → Option Value} {u k f : Int} (h : Pl w0 w g s C 0 0 u k f) (hs : s.size ≤ 1048576) (hok : (mdl s).2.2 = true) :
    Calls Tryd.prog 22 #[.pointer (some ⟨g, 0, none⟩)] w fun e w' => e = .returned (.int .u8 (kndU (mdl s).1 : Nat)) ∧ Go2 w0 w w' g s C (mdl s).2.1 0 u k f := by
  have HS := Lib.hid (cil55u h hs hok)
  clear h hok
  go_enter Tryd.func22, Tryd.ntmps22
  go_wp2_with fail
  refine (HS.out).mono ?_
  rintro e w2 ⟨rfl, hg⟩
  have HG := Lib.hid hg
  clear hg
  dsimp only
  go_wp2_with fail
  go_ret
  exact ⟨rfl, HG.out⟩
theorem mdl_ok (s : ByteArray) : (mdl s).2.1 ≤ s.size ∧ ((mdl s).2.2 = true → (mdl s).1 = 1 ∨ (mdl s).1 = 2 ∨ (mdl s).1 = 3) := by
  have hE := (nmE_ge s 0 (Nat.zero_le _)).2
  unfold mdl mdlE
  by_cases h1 : byt s (nmE s 0) = 92 ∧ ¬ (nmE s 0 + 1 < s.size ∧ nlC (byt s (nmE s 0 + 1)) = true)
  · rw [if_pos h1]; exact ⟨Nat.zero_le _, fun h => by cases h⟩
  rw [if_neg h1]
  by_cases h2 : byt s (nmE s 0) = 40
  case neg => rw [if_pos h2]; exact ⟨hE, fun _ => Or.inl rfl⟩
  rw [if_neg (by omega)]
  have hl := byt_lt_size s (nmE s 0) (by omega)
  by_cases h3 : nmE s 0 = 3 ∧ url3 s = true
  case neg => rw [if_pos h3]; exact ⟨hl, fun _ => Or.inr (Or.inl rfl)⟩
  rw [if_neg (fun hh => hh h3)]
  split
  · exact ⟨hl, fun _ => Or.inr (Or.inl rfl)⟩
  · split
    · rename_i h5
      exact ⟨byt_lt_size s _ (by omega), fun _ => Or.inr (Or.inr rfl)⟩
    · exact ⟨Nat.zero_le _, fun h => by cases h⟩
set_option maxRecDepth 100000 in
set_option maxHeartbeats 4000000 in
theorem FnConsumeIdentLikeMatchesModel_walk (a0 : ByteArray) (w0 : a0.size ≤ maxLen) (w : World) (hT : Lib.Utf8Tabs 0 1 w) :
    Calls Tryd.prog 4 #[.string a0] w fun e w' => e = .returned (.bool true) ∧ Below w.heap.size w w' := by
  have HT := Lib.hid hT
  have HZ := Lib.hid (zb18 a0 w0 w)
  clear hT
  go_enter Tryd.func4, Tryd.ntmps4
  go_wp2_with fail
  refine (HZ.out).mono ?_
  rintro e w1 ⟨rfl, rfl⟩
  by_cases hs : a0.size ≤ 1048576
  case neg =>
    rw [decide_eq_false hs]
    clear hs
    dsimp only
    go_wp2_with fail
    go_ret
    exact ⟨rfl, Below.refl _ _⟩
  rw [decide_eq_true hs]
  have HEM := Lib.hid (em19 a0 hs w)
  have HCI := Lib.hid (fun (w0 w : World) (g : Nat) (C : Nat → Option Value) (h : Pl w0 w g a0 C 0 0 0 0 0) (hok : (mdl a0).2.2 = true) => ci22 h hs hok)
  obtain ⟨he, hk⟩ := mdl_ok a0
  obtain ⟨M, hM⟩ : ∃ M, mdl a0 = M := ⟨_, rfl⟩
  rw [hM] at HEM HCI he hk
  clear hM
  obtain ⟨mk, me, mb⟩ := M
  unfold mdlV at HEM
  dsimp only at HEM HCI he hk
  have HK := Lib.hid hk
  clear hk
  dsimp only
  go_wp2_with fail
  refine (HEM.out).mono ?_
  rintro e w1 ⟨rfl, be1⟩
  have HB1 := Lib.hid be1
  clear be1
  dsimp only
  cases mb with
  | false =>
    go_wp2_with fail
    go_ret
    exact ⟨rfl, HB1.out⟩
  | true =>
  have hk := HK.out rfl
  have HT1 := Lib.hid (tabs_below HT.out HB1.out)
  go_wp2_with fail
  refine (nl20 a0 _).mono ?_
  rintro e w2 ⟨rfl, rfl⟩
  dsimp only
  go_wp2_with fail
  refine (st21 (lexU_CL w1 a0) (tabs_below HT1.out ((Below.refl w1.heap.size w1).alloc (Nat.le_refl _) _)) hs).mono ?_
  rintro e w2 ⟨rfl, ha, hst⟩
  have HPL := Lib.hid (fresh_plU w1 w2 a0 HT1.out ha hst)
  clear ha hst
  dsimp only
  go_wp2_with fail
  refine (HCI.out _ _ _ _ HPL.out trivial).mono ?_
  rintro e w3 ⟨rfl, hg⟩
  have HG := Lib.hid hg
  obtain ⟨l, c10, c32, c33, c35, c36, c37, fz⟩ := id hg.1.at_
  have hz0 : (me : Int) - ((0 : Nat) : Int) = (me : Int) := by omega
  rw [hz0] at c37
  have HBF := Lib.hid (HB1.out.trans (hg.1.be.mono HB1.out.size))
  clear hg hz0 c10 c32 c33 c35 c36 fz
  dsimp only
  rcases hk with rfl | rfl | rfl
  all_goals
    unfold kndU
    go_wp2_with fail
    go_ret
    exact ⟨by simp, HBF.out⟩
end Go.Proofs.YtocciemgdikmjaaDoor
