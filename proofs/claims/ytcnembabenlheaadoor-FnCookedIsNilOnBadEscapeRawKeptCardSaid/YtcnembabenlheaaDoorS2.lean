/-
  scanForPragmaArg.
-/
import Derived.Test.YtcnembabenlheaaDoorS1
namespace Go.Proofs.YtcnembabenlheaaDoor
open Go.ChangeShapes Go.WideShapes Go.ChangeAt Go.RowKit
open Go.Lib (decodeN decode_at decodeGo)
set_option linter.unusedVariables false
theorem ext_more (t : ByteArray) (a k : Nat) (h : a + k ≤ t.size) : (t.extract a t.size).extract k (t.size - a) = t.extract (a + k) t.size := by
  apply ByteArray.ext_getElem
  · simp; omega
  · intro i h1 h2
    simp only [ByteArray.getElem_extract]
    congr 1
    omega
theorem ext_cut (t : ByteArray) (a k : Nat) (h : a + k ≤ t.size) : (t.extract a t.size).extract 0 k = t.extract a (a + k) := by
  apply ByteArray.ext_getElem
  · simp; omega
  · intro i h1 h2
    simp only [ByteArray.getElem_extract]
    congr 1
    omega
/-- what scanForPragmaArg answers -/
def ScanPost (kind : Nat) (start : Int) (p t : ByteArray) (e : Ending) : Prop :=
  (e = .returned (.tuple #[.agg #[.string ByteArray.empty, .int .i32 0, .int .i32 0], .bool false]) ∧ (kind = 0 → t.size = p.size)) ∨
  ∃ k i : Nat, e = .returned (.tuple #[.agg #[.string (t.extract (p.size + k) (p.size + k + i)), .int .i32 (start + p.size + k), .int .i32 i], .bool true]) ∧ p.size + k + i ≤ t.size ∧ p.size < t.size ∧ (kind = 0 → k = 0) ∧ (kind ≠ 0 → 1 ≤ k ∧ 1 ≤ i)
theorem ext_empty (t : ByteArray) (a : Nat) (h : t.size ≤ a) : (t.extract a t.size).toList.isEmpty = true := by
  have : (t.extract a t.size).size = 0 := by simp; omega
  rw [ByteArray.toList_eq]
  simp only [List.isEmpty_iff]
  apply List.eq_nil_of_length_eq_zero
  simpa using this
theorem ext_not_empty (t : ByteArray) (a : Nat) (h : a < t.size) : (t.extract a t.size).toList.isEmpty = false := by
  have : (t.extract a t.size).size ≠ 0 := by simp; omega
  rw [ByteArray.toList_eq, Bool.eq_false_iff]
  intro hh
  rw [List.isEmpty_iff] at hh
  apply this
  have := congrArg List.length hh
  simpa using this
theorem results_cell_tmp {fn : Func} {p u : Tmp} {ty : TypeId} (h : fn.results = #[.cell p ty, .tmp u]) (tmps : Array Value) (P : Program) (w : World) :
    (results fn tmps).run P w =
      ((asAddr (tmps.getD p undef)).run P w).andThen fun a w₁ => ((loadVar ty a).run P w₁).andThen fun v w₂ => .ok (.tuple #[v, tmps.getD u undef]) w₂ := by
  simp only [results, h]
  simp [Sem.run_bind, Result.andThen]
/-- the span that is given back lies in block k -/
structure BoxR (w : World) (k : Nat) (s : ByteArray) (a b : Int) : Prop where
  at_ : w.heap[k]? = some (Obj.cells #[.string s, .int .i32 a, .int .i32 b] 67 (0, 0))
section
variable {w w' : World} {k : Nat} {s : ByteArray} {a b : Int}
theorem BoxR.lt (h : BoxR w k s a b) : k < w.heap.size := (Array.getElem?_eq_some_iff.1 h.at_).1
theorem BoxR.keep (h : BoxR w k s a b) (hb : Below w.heap.size w w') : BoxR w' k s a b := ⟨by rw [hb.block k h.lt]; exact h.at_⟩
theorem BoxR.cells (h : BoxR w k s a b) : w.cell? ⟨k, 0, none⟩ = some (.string s) ∧ w.cell? ⟨k, 1, none⟩ = some (.int .i32 a) ∧ w.cell? ⟨k, 2, none⟩ = some (.int .i32 b) ∧ w.frozen? ⟨k, 0, none⟩ = false ∧ w.frozen? ⟨k, 1, none⟩ = false ∧ w.frozen? ⟨k, 2, none⟩ = false := by
  refine ⟨?_, ?_, ?_, ?_, ?_, ?_⟩
  · simp only [World.cell?, h.at_]; rfl
  · simp only [World.cell?, h.at_]; rfl
  · simp only [World.cell?, h.at_]; rfl
  · simp [World.frozen?, h.at_]
  · simp [World.frozen?, h.at_]
  · simp [World.frozen?, h.at_]
theorem BoxR.fin (h : BoxR w k s a b) (s' : ByteArray) (a' b' : Int) : BoxR (((w.setCell ⟨k, 0, none⟩ (.string s')).setCell ⟨k, 1, none⟩ (.int .i32 a')).setCell ⟨k, 2, none⟩ (.int .i32 b')) k s' a' b' := by
  refine ⟨?_⟩
  have e1 : (w.setCell ⟨k, 0, none⟩ (.string s')).heap[k]? = some (Obj.cells #[.string s', .int .i32 a, .int .i32 b] 67 (0, 0)) := by rw [heap_setCell_same w k 0 _ 67 _ h.at_]; rfl
  have e2 : ((w.setCell ⟨k, 0, none⟩ (.string s')).setCell ⟨k, 1, none⟩ (.int .i32 a')).heap[k]? = some (Obj.cells #[.string s', .int .i32 a', .int .i32 b] 67 (0, 0)) := by rw [heap_setCell_same _ k 1 _ 67 _ e1]; rfl
  rw [heap_setCell_same _ k 2 _ 67 _ e2]; rfl
theorem BoxR.bel {w0 : World} {B : Nat} (h : Below B w0 w) (hk : B ≤ k) (s' : ByteArray) (a' b' : Int) : Below B w0 (((w.setCell ⟨k, 0, none⟩ (.string s')).setCell ⟨k, 1, none⟩ (.int .i32 a')).setCell ⟨k, 2, none⟩ (.int .i32 b')) :=
  ((h.setCell hk _).setCell hk _).setCell hk _
end
def strSize : Value → Nat
  | .string s => s.size
  | _ => 0
set_option maxRecDepth 100000 in
set_option maxHeartbeats 8000000 in
theorem scan31_0 (start : Int) (p t : ByteArray) (w : World) (hT : Lib.Utf8Tabs 0 1 w) (h0 : 0 ≤ start) (h1 : start ≤ 1073741824) (hpt : p.size ≤ t.size) (ht : t.size ≤ 1048576) :
    Calls Tryd.prog 31 #[.int .u8 0, .int .i64 start, .string p, .string t] w fun e w' => ScanPost 0 start p t e ∧ Below w.heap.size w w' := by
  by_cases hz : t.size ≤ p.size
  · have he := ext_empty t p.size hz
    go_enter Tryd.func31, Tryd.ntmps31
    go_wp2_with fail
    (try simp only [Exit.inBlock, Exit.then])
    refine bodyPost_ret (v := .tuple #[.agg #[.string ByteArray.empty, .int .i32 0, .int .i32 0], .bool false]) ?_ rfl ⟨Or.inl ⟨rfl, fun h => by omega⟩, (Below.refl _ _).alloc (Nat.le_refl _) _⟩
    rw [results_cell_tmp rfl]
    simp [asAddr, Result.andThen, run_loadVar_row _ w.heap.size 67 67 #[.string { data := #[] }, .int .i32 0, .int .i32 0] (0, 0) _ (heap_alloc_new w _) Tryd.underlying67 rfl (by kernel_rfl)]
    rfl
  · have he := ext_not_empty t p.size (by omega)
    obtain ⟨X, hX⟩ : ∃ X, t.extract p.size t.size = X := ⟨_, rfl⟩
    have HX := Lib.hid hX
    rw [hX] at he
    obtain ⟨n, hXn⟩ : ∃ n, X.size = n := ⟨_, rfl⟩
    have HN := Lib.hid (show p.size + 0 + n = t.size by rw [← hXn, ← hX]; simp; omega)
    have hn1 : 1 ≤ n := by have := HN.out; omega
    have hn2 : n ≤ 1048576 := by have := HN.out; omega
    obtain ⟨C, hC⟩ : ∃ C, (decodeGo X).1 = C := ⟨_, rfl⟩
    obtain ⟨K, hK⟩ : ∃ K, (decodeGo X).2 = K := ⟨_, rfl⟩
    have hw0 : X.extract 0 X.size = X := ByteArray.extract_zero_size
    have hwid := dec_wid X 0 (by omega)
    rw [hw0, hK, hXn] at hwid
    obtain ⟨W0, hW0⟩ : ∃ W0, w.alloc (Obj.cells #[Value.string { data := #[] }, Value.int IntKind.i32 0, Value.int IntKind.i32 0] 67) = W0 := ⟨_, rfl⟩
    have hb0 : Below w.heap.size w W0 := by rw [← hW0]; exact (Below.refl _ _).alloc (Nat.le_refl _) _
    have BR0 : BoxR W0 w.heap.size { data := #[] } 0 0 := ⟨by rw [← hW0]; exact heap_alloc_new w _⟩
    have HW0 := Lib.hid hW0; have KB0 := Lib.hid hb0; have HBR0 := Lib.hid BR0; have HT0 := Lib.hid (tabs_below hT hb0)
    have HC := Lib.hid hC; have HK := Lib.hid hK
    have hps : p.size ≤ 1048576 := by omega
    clear hX hW0 hb0 BR0 hT hC hK hw0
    go_enter Tryd.func31, Tryd.ntmps31
    go_wp2_with (first | rw [HX.out] | fail)
    rw [HW0.out]
    refine (dec37 X W0 HT0.out C K HC.out HK.out).mono ?_
    rintro e w1 ⟨rfl, be1⟩
    have KB1 := Lib.hid (KB0.out.trans (be1.mono KB0.out.size)); have HBR1 := Lib.hid (HBR0.out.keep be1); have HT1 := Lib.hid (tabs_below HT0.out be1)
    clear HBR0 HT0 KB0 HW0 be1
    dsimp only
    go_wp2_with fail
    go_loopw [10, 11, 12] (fun c wd iv w' => ∃ (C K i : Nat), c = .int .i32 C ∧ wd = .int .i64 K ∧ iv = .int .i64 i ∧ 1 ≤ K ∧ i + K ≤ n ∧ Hid (Below w.heap.size w w') ∧ Hid (BoxR w' w.heap.size { data := #[] } 0 0) ∧ Hid (Lib.Utf8Tabs 0 1 w') ∧ Hid (0 = 1 → i = 0 → wsJ (C : Int) = false)) (fun c wd iv w' => n - (intOf iv).toNat)
    case atStart => exact ⟨C, K, 0, rfl, rfl, rfl, by omega, by omega, KB1, HBR1, HT1, Lib.hid (fun h => by omega)⟩
    case round =>
      obtain ⟨C, K, i, rfl, rfl, rfl, hK1, hiK, KBr, HBRr, HTr, HI0⟩ := hrel
      go_wp2_with fail
      refine (ws38 C wr).mono ?_
      rintro e w2 ⟨rfl, rfl⟩
      obtain ⟨r0, r1, r2, f0, f1, f2⟩ := HBRr.out.cells
      have lt := HBRr.out.lt
      cases hws : wsJ (C : Int)
      · dsimp only
        by_cases hend : n ≤ i + K
        · obtain ⟨I, hI⟩ : ∃ I, i + K = I := ⟨_, rfl⟩
          have hI' : (i : Int) + (K : Int) = (I : Int) := by omega
          have hIn : I ≤ n := by omega
          have hIn2 : n ≤ I := by omega
          go_wp2_with fail
          (try simp only [Exit.inBlock, Exit.then])
          refine bodyPost_ret (v := .tuple #[.agg #[.string (X.extract 0 (I)), .int .i32 (start + (p.size : Int)), .int .i32 (I : Int)], .bool true]) ?_ rfl ⟨Or.inr ⟨0, I, ?_, ?_, ?_, ?_, ?_⟩, BoxR.bel KBr.out (Nat.le_refl _) _ _ _⟩
          · rw [results_cell_tmp rfl]
            simp [asAddr, Result.andThen, run_loadVar_row _ w.heap.size 67 67 #[.string (X.extract 0 (I)), .int .i32 (start + (p.size : Int)), .int .i32 (I : Int)] (0, 0) _ (HBRr.out.fin _ _ _).at_ Tryd.underlying67 rfl (by kernel_rfl)]
          · have hn := HN.out
            rw [← HX.out, ext_cut t _ _ (by omega)]
            first | rfl | (congr 6; omega) | simp
          · have hn := HN.out; omega
          · have hn := HN.out; omega
          · intro h; omega
          · intro h; omega
        · obtain ⟨I, hI⟩ : ∃ I, i + K = I := ⟨_, rfl⟩
          have hI' : (i : Int) + (K : Int) = (I : Int) := by omega
          obtain ⟨Y, hY⟩ : ∃ Y, X.extract I n = Y := ⟨_, rfl⟩
          obtain ⟨C2, hC2⟩ : ∃ C, (decodeGo Y).1 = C := ⟨_, rfl⟩
          obtain ⟨K2, hK2⟩ : ∃ K, (decodeGo Y).2 = K := ⟨_, rfl⟩
          have hwid2 := dec_wid X I (by omega)
          rw [hXn, hY, hK2] at hwid2
          have HC2 := Lib.hid hC2; have HK2 := Lib.hid hK2; have HY := Lib.hid hY
          have hIn : I < n := by omega
          clear hC2 hK2 hY
          go_wp2_with fail
          rw [HY.out]
          refine (dec37 Y wr HTr.out C2 K2 HC2.out HK2.out).mono ?_
          rintro e w2 ⟨rfl, be2⟩
          have KB2 := Lib.hid (KBr.out.trans (be2.mono KBr.out.size)); have HBR2 := Lib.hid (HBRr.out.keep be2); have HT2 := Lib.hid (tabs_below HTr.out be2)
          clear be2 r0 r1 r2 f0 f1 f2 lt
          obtain ⟨r0, r1, r2, f0, f1, f2⟩ := HBR2.out.cells
          have lt := HBR2.out.lt
          dsimp only
          go_wp2_with fail
          refine (ws38 C2 w2).mono ?_
          rintro e w3 ⟨rfl, rfl⟩
          cases hws2 : wsJ (C2 : Int)
          · dsimp only
            go_wp2_with fail
            go_roundw
            case rel => exact ⟨C2, K2, I, by trivial, by trivial, by trivial, by omega, by omega, KB2, HBR2, HT2, Lib.hid (fun _ h => by omega)⟩
            case measure => simp only [intOf]; omega
          · dsimp only
            go_wp2_with fail
            (try simp only [Exit.inBlock, Exit.then])
            refine bodyPost_ret (v := .tuple #[.agg #[.string (X.extract 0 (I)), .int .i32 (start + (p.size : Int)), .int .i32 (I : Int)], .bool true]) ?_ rfl ⟨Or.inr ⟨0, I, ?_, ?_, ?_, ?_, ?_⟩, BoxR.bel KB2.out (Nat.le_refl _) _ _ _⟩
            · rw [results_cell_tmp rfl]
              simp [asAddr, Result.andThen, run_loadVar_row _ w.heap.size 67 67 #[.string (X.extract 0 (I)), .int .i32 (start + (p.size : Int)), .int .i32 (I : Int)] (0, 0) _ (HBR2.out.fin _ _ _).at_ Tryd.underlying67 rfl (by kernel_rfl)]
            · have hn := HN.out
              rw [← HX.out, ext_cut t _ _ (by omega)]
              first | rfl | (congr 6; omega) | simp
            · have hn := HN.out; omega
            · have hn := HN.out; omega
            · intro h; omega
            · intro h; omega
      · dsimp only
        go_wp2_with fail
        (try simp only [Exit.inBlock, Exit.then])
        refine bodyPost_ret (v := .tuple #[.agg #[.string (X.extract 0 (i)), .int .i32 (start + (p.size : Int)), .int .i32 (i : Int)], .bool true]) ?_ rfl ⟨Or.inr ⟨0, i, ?_, ?_, ?_, ?_, ?_⟩, BoxR.bel KBr.out (Nat.le_refl _) _ _ _⟩
        · rw [results_cell_tmp rfl]
          simp [asAddr, Result.andThen, run_loadVar_row _ w.heap.size 67 67 #[.string (X.extract 0 (i)), .int .i32 (start + (p.size : Int)), .int .i32 (i : Int)] (0, 0) _ (HBRr.out.fin _ _ _).at_ Tryd.underlying67 rfl (by kernel_rfl)]
        · have hn := HN.out
          rw [← HX.out, ext_cut t _ _ (by omega)]
          first | rfl | (congr 6; omega) | simp
        · have hn := HN.out; omega
        · have hn := HN.out; omega
        · intro h; omega
        · intro h; omega
set_option maxRecDepth 100000 in
set_option maxHeartbeats 8000000 in
theorem scan31_1 (start : Int) (p t : ByteArray) (w : World) (hT : Lib.Utf8Tabs 0 1 w) (h0 : 0 ≤ start) (h1 : start ≤ 1073741824) (hpt : p.size ≤ t.size) (ht : t.size ≤ 1048576) :
    Calls Tryd.prog 31 #[.int .u8 1, .int .i64 start, .string p, .string t] w fun e w' => ScanPost 1 start p t e ∧ Below w.heap.size w w' := by
  by_cases hz : t.size ≤ p.size
  · have he := ext_empty t p.size hz
    go_enter Tryd.func31, Tryd.ntmps31
    go_wp2_with fail
    (try simp only [Exit.inBlock, Exit.then])
    refine bodyPost_ret (v := .tuple #[.agg #[.string ByteArray.empty, .int .i32 0, .int .i32 0], .bool false]) ?_ rfl ⟨Or.inl ⟨rfl, fun h => by omega⟩, (Below.refl _ _).alloc (Nat.le_refl _) _⟩
    rw [results_cell_tmp rfl]
    simp [asAddr, Result.andThen, run_loadVar_row _ w.heap.size 67 67 #[.string { data := #[] }, .int .i32 0, .int .i32 0] (0, 0) _ (heap_alloc_new w _) Tryd.underlying67 rfl (by kernel_rfl)]
    rfl
  · have he := ext_not_empty t p.size (by omega)
    obtain ⟨X, hX⟩ : ∃ X, t.extract p.size t.size = X := ⟨_, rfl⟩
    have HX := Lib.hid hX
    rw [hX] at he
    obtain ⟨n, hXn⟩ : ∃ n, X.size = n := ⟨_, rfl⟩
    have HN := Lib.hid (show p.size + 0 + n = t.size by rw [← hXn, ← hX]; simp; omega)
    have hn1 : 1 ≤ n := by have := HN.out; omega
    have hn2 : n ≤ 1048576 := by have := HN.out; omega
    obtain ⟨C, hC⟩ : ∃ C, (decodeGo X).1 = C := ⟨_, rfl⟩
    obtain ⟨K, hK⟩ : ∃ K, (decodeGo X).2 = K := ⟨_, rfl⟩
    have hw0 : X.extract 0 X.size = X := ByteArray.extract_zero_size
    have hwid := dec_wid X 0 (by omega)
    rw [hw0, hK, hXn] at hwid
    obtain ⟨W0, hW0⟩ : ∃ W0, w.alloc (Obj.cells #[Value.string { data := #[] }, Value.int IntKind.i32 0, Value.int IntKind.i32 0] 67) = W0 := ⟨_, rfl⟩
    have hb0 : Below w.heap.size w W0 := by rw [← hW0]; exact (Below.refl _ _).alloc (Nat.le_refl _) _
    have BR0 : BoxR W0 w.heap.size { data := #[] } 0 0 := ⟨by rw [← hW0]; exact heap_alloc_new w _⟩
    have HW0 := Lib.hid hW0; have KB0 := Lib.hid hb0; have HBR0 := Lib.hid BR0; have HT0 := Lib.hid (tabs_below hT hb0)
    have HC := Lib.hid hC; have HK := Lib.hid hK
    have hps : p.size ≤ 1048576 := by omega
    clear hX hW0 hb0 BR0 hT hC hK hw0
    go_enter Tryd.func31, Tryd.ntmps31
    go_wp2_with (first | rw [HX.out] | fail)
    rw [HW0.out]
    refine (dec37 X W0 HT0.out C K HC.out HK.out).mono ?_
    rintro e w1 ⟨rfl, be1⟩
    have KB1 := Lib.hid (KB0.out.trans (be1.mono KB0.out.size)); have HBR1 := Lib.hid (HBR0.out.keep be1); have HT1 := Lib.hid (tabs_below HT0.out be1)
    clear HBR0 HT0 KB0 HW0 be1
    dsimp only
    go_wp2_with fail
    refine (ws38 C w1).mono ?_
    rintro e w2 ⟨rfl, rfl⟩
    cases hws0 : wsJ (C : Int)
    · obtain ⟨r0, r1, r2, f0, f1, f2⟩ := HBR1.out.cells
      have lt := HBR1.out.lt
      dsimp only
      go_wp2_with fail
      (try simp only [Exit.inBlock, Exit.then])
      refine bodyPost_ret (v := .tuple #[.agg #[.string ByteArray.empty, .int .i32 0, .int .i32 0], .bool false]) ?_ rfl ⟨Or.inl ⟨rfl, fun h => by omega⟩, BoxR.bel KB1.out (Nat.le_refl _) _ _ _⟩
      rw [results_cell_tmp rfl]
      simp [asAddr, Result.andThen, run_loadVar_row _ w.heap.size 67 67 #[.string { data := #[] }, .int .i32 0, .int .i32 0] (0, 0) _ ((HBR1.out.fin _ _ _).at_) Tryd.underlying67 rfl (by kernel_rfl)]
      rfl
    · have HWS0 := Lib.hid hws0
      clear hws0
      dsimp only
      go_wp2_with fail
      go_loopw [1, 3, 10, 11] (fun sv tx c wd w' => ∃ (k C K m : Nat) (Y : ByteArray), sv = .int .i64 (start + (p.size : Int) + (k : Int)) ∧ tx = .string Y ∧ c = .int .i32 C ∧ wd = .int .i64 K ∧ Y.size = m ∧ 1 ≤ K ∧ K ≤ m ∧ m ≤ 1048576 ∧ k ≤ 1048576 ∧ Hid (p.size + k + m = t.size) ∧ Hid (t.extract (p.size + k) t.size = Y) ∧ Hid (Below w.heap.size w w') ∧ Hid (BoxR w' w.heap.size { data := #[] } 0 0) ∧ Hid (Lib.Utf8Tabs 0 1 w') ∧ Hid (k = 0 → wsJ (C : Int) = true)) (fun sv tx c wd w' => strSize tx)
      case atStart => exact ⟨0, C, K, n, X, by simp, rfl, rfl, rfl, hXn, by omega, by omega, by omega, by omega, HN, HX, KB1, HBR1, HT1, Lib.hid (fun _ => HWS0.out)⟩
      case round =>
        obtain ⟨k, C, K, m, Y, rfl, rfl, rfl, rfl, hYm, hK1, hKm, hm2, hk2, HNr, HXr, KBr, HBRr, HTr, HWr⟩ := hrel
        obtain ⟨S, hS⟩ : ∃ S : Int, start + (p.size : Int) + (k : Int) = S := ⟨_, rfl⟩
        have hS1 : 0 ≤ S := by omega
        have hS2 : S ≤ 1075838976 := by omega
        rw [hS]
        have HS := Lib.hid hS
        clear hS
        go_wp2_with fail
        refine (ws38 C wr).mono ?_
        rintro e w2 ⟨rfl, rfl⟩
        obtain ⟨r0, r1, r2, f0, f1, f2⟩ := HBRr.out.cells
        have lt := HBRr.out.lt
        cases hws : wsJ (C : Int)
        · have HWS := Lib.hid hws
          have hk1 : 1 ≤ k := by
            rcases Nat.eq_zero_or_pos k with h | h
            · exact absurd (HWr.out h) (by rw [hws]; simp)
            · exact h
          clear hws r0 r1 r2 f0 f1 f2 lt
          dsimp only
          go_wp2_with fail
          clear HX HN hXn hn1 hn2 hwid HC HK he
          go_loopw [10, 11, 12] (fun c wd iv w' => ∃ (C K i : Nat), c = .int .i32 C ∧ wd = .int .i64 K ∧ iv = .int .i64 i ∧ 1 ≤ K ∧ i + K ≤ m ∧ Hid (Below w.heap.size w w') ∧ Hid (BoxR w' w.heap.size { data := #[] } 0 0) ∧ Hid (Lib.Utf8Tabs 0 1 w') ∧ Hid (1 = 1 → i = 0 → wsJ (C : Int) = false)) (fun c wd iv w' => m - (intOf iv).toNat)
          case atStart => exact ⟨C, K, 0, rfl, rfl, rfl, by omega, by omega, KBr, HBRr, HTr, Lib.hid (fun _ _ => HWS.out)⟩
          case round =>
            obtain ⟨C, K, i, rfl, rfl, rfl, hK1, hiK, KBr, HBRr, HTr, HI0⟩ := hrel
            go_wp2_with fail
            refine (ws38 C wr).mono ?_
            rintro e w2 ⟨rfl, rfl⟩
            obtain ⟨r0, r1, r2, f0, f1, f2⟩ := HBRr.out.cells
            have lt := HBRr.out.lt
            cases hws : wsJ (C : Int)
            · dsimp only
              by_cases hend : m ≤ i + K
              · obtain ⟨I, hI⟩ : ∃ I, i + K = I := ⟨_, rfl⟩
                have hI' : (i : Int) + (K : Int) = (I : Int) := by omega
                have hIn : I ≤ m := by omega
                have hIn2 : m ≤ I := by omega
                go_wp2_with fail
                (try simp only [Exit.inBlock, Exit.then])
                refine bodyPost_ret (v := .tuple #[.agg #[.string (Y.extract 0 (I)), .int .i32 (S), .int .i32 (I : Int)], .bool true]) ?_ rfl ⟨Or.inr ⟨k, I, ?_, ?_, ?_, ?_, ?_⟩, BoxR.bel KBr.out (Nat.le_refl _) _ _ _⟩
                · rw [results_cell_tmp rfl]
                  simp [asAddr, Result.andThen, run_loadVar_row _ w.heap.size 67 67 #[.string (Y.extract 0 (I)), .int .i32 (S), .int .i32 (I : Int)] (0, 0) _ (HBRr.out.fin _ _ _).at_ Tryd.underlying67 rfl (by kernel_rfl)]
                · have hn := HNr.out
                  rw [← HXr.out, ext_cut t _ _ (by omega)]
                  rw [← HS.out] <;> first | rfl | (congr 6; omega) | simp
                · have hn := HNr.out; omega
                · have hn := HNr.out; omega
                · intro h; omega
                · intro h; omega
              · obtain ⟨I, hI⟩ : ∃ I, i + K = I := ⟨_, rfl⟩
                have hI' : (i : Int) + (K : Int) = (I : Int) := by omega
                obtain ⟨YY, hY⟩ : ∃ YY, Y.extract I m = YY := ⟨_, rfl⟩
                obtain ⟨C2, hC2⟩ : ∃ C, (decodeGo YY).1 = C := ⟨_, rfl⟩
                obtain ⟨K2, hK2⟩ : ∃ K, (decodeGo YY).2 = K := ⟨_, rfl⟩
                have hwid2 := dec_wid Y I (by omega)
                rw [hYm, hY, hK2] at hwid2
                have HC2 := Lib.hid hC2; have HK2 := Lib.hid hK2; have HY := Lib.hid hY
                have hIn : I < m := by omega
                clear hC2 hK2 hY
                go_wp2_with fail
                rw [HY.out]
                refine (dec37 YY wr HTr.out C2 K2 HC2.out HK2.out).mono ?_
                rintro e w2 ⟨rfl, be2⟩
                have KB2 := Lib.hid (KBr.out.trans (be2.mono KBr.out.size)); have HBR2 := Lib.hid (HBRr.out.keep be2); have HT2 := Lib.hid (tabs_below HTr.out be2)
                clear be2 r0 r1 r2 f0 f1 f2 lt
                obtain ⟨r0, r1, r2, f0, f1, f2⟩ := HBR2.out.cells
                have lt := HBR2.out.lt
                dsimp only
                go_wp2_with fail
                refine (ws38 C2 w2).mono ?_
                rintro e w3 ⟨rfl, rfl⟩
                cases hws2 : wsJ (C2 : Int)
                · dsimp only
                  go_wp2_with fail
                  go_roundw
                  case rel => exact ⟨C2, K2, I, by trivial, by trivial, by trivial, by omega, by omega, KB2, HBR2, HT2, Lib.hid (fun _ h => by omega)⟩
                  case measure => simp only [intOf]; omega
                · dsimp only
                  go_wp2_with fail
                  (try simp only [Exit.inBlock, Exit.then])
                  refine bodyPost_ret (v := .tuple #[.agg #[.string (Y.extract 0 (I)), .int .i32 (S), .int .i32 (I : Int)], .bool true]) ?_ rfl ⟨Or.inr ⟨k, I, ?_, ?_, ?_, ?_, ?_⟩, BoxR.bel KB2.out (Nat.le_refl _) _ _ _⟩
                  · rw [results_cell_tmp rfl]
                    simp [asAddr, Result.andThen, run_loadVar_row _ w.heap.size 67 67 #[.string (Y.extract 0 (I)), .int .i32 (S), .int .i32 (I : Int)] (0, 0) _ (HBR2.out.fin _ _ _).at_ Tryd.underlying67 rfl (by kernel_rfl)]
                  · have hn := HNr.out
                    rw [← HXr.out, ext_cut t _ _ (by omega)]
                    rw [← HS.out] <;> first | rfl | (congr 6; omega) | simp
                  · have hn := HNr.out; omega
                  · have hn := HNr.out; omega
                  · intro h; omega
                  · intro h; omega
            · dsimp only
              go_wp2_with fail
              (try simp only [Exit.inBlock, Exit.then])
              refine bodyPost_ret (v := .tuple #[.agg #[.string (Y.extract 0 (i)), .int .i32 (S), .int .i32 (i : Int)], .bool true]) ?_ rfl ⟨Or.inr ⟨k, i, ?_, ?_, ?_, ?_, ?_⟩, BoxR.bel KBr.out (Nat.le_refl _) _ _ _⟩
              · rw [results_cell_tmp rfl]
                simp [asAddr, Result.andThen, run_loadVar_row _ w.heap.size 67 67 #[.string (Y.extract 0 (i)), .int .i32 (S), .int .i32 (i : Int)] (0, 0) _ (HBRr.out.fin _ _ _).at_ Tryd.underlying67 rfl (by kernel_rfl)]
              · have hn := HNr.out
                rw [← HXr.out, ext_cut t _ _ (by omega)]
                rw [← HS.out] <;> first | rfl | (congr 6; omega) | simp
              · have hn := HNr.out; omega
              · have hn := HNr.out; omega
              · intro h; omega
              · intro h; refine ⟨by omega, ?_⟩; rcases Nat.eq_zero_or_pos i with h0 | h0; exact absurd (HI0.out (by trivial) h0) (by rw [hws]; simp); exact h0
        · dsimp only
          obtain ⟨Z, hZ⟩ : ∃ Z, Y.extract K m = Z := ⟨_, rfl⟩
          have hZ2 : t.extract (p.size + (k + K)) t.size = Z := by
            rw [← hZ, ← HXr.out]
            have hn := HNr.out
            rw [show m = t.size - (p.size + k) by omega, ext_more t (p.size + k) K (by omega), Nat.add_assoc]
          by_cases hem : m ≤ K
          · have hze : Z.toList.isEmpty = true := by rw [← hZ2]; exact ext_empty t _ (by have := HNr.out; omega)
            have HZ := Lib.hid hZ
            clear hZ hZ2
            go_wp2_with (first | rw [HZ.out] | fail)
            (try simp only [Exit.inBlock, Exit.then])
            refine bodyPost_ret (v := .tuple #[.agg #[.string ByteArray.empty, .int .i32 0, .int .i32 0], .bool false]) ?_ rfl ⟨Or.inl ⟨rfl, fun h => by omega⟩, BoxR.bel KBr.out (Nat.le_refl _) _ _ _⟩
            rw [results_cell_tmp rfl]
            simp [asAddr, Result.andThen, run_loadVar_row _ w.heap.size 67 67 #[.string { data := #[] }, .int .i32 0, .int .i32 0] (0, 0) _ ((HBRr.out.fin _ _ _).at_) Tryd.underlying67 rfl (by kernel_rfl)]
            rfl
          · have hze : Z.toList.isEmpty = false := by rw [← hZ2]; exact ext_not_empty t _ (by have := HNr.out; omega)
            have HZ := Lib.hid hZ; have HZ2 := Lib.hid hZ2
            obtain ⟨C2, hC2⟩ : ∃ C, (decodeGo Z).1 = C := ⟨_, rfl⟩
            obtain ⟨K2, hK2⟩ : ∃ K, (decodeGo Z).2 = K := ⟨_, rfl⟩
            have hZm : Z.size = m - K := by rw [← hZ]; simp; omega
            have hw0 : Z.extract 0 Z.size = Z := ByteArray.extract_zero_size
            have hwid2 := dec_wid Z 0 (by omega)
            rw [hw0, hK2, hZm] at hwid2
            have HC2 := Lib.hid hC2; have HK2 := Lib.hid hK2; have HZm := Lib.hid hZm
            clear hZ hZ2 hC2 hK2 hZm hw0
            go_wp2_with (first | rw [HZ.out] | fail)
            refine (dec37 Z wr HTr.out C2 K2 HC2.out HK2.out).mono ?_
            rintro e w2 ⟨rfl, be2⟩
            have KB2 := Lib.hid (KBr.out.trans (be2.mono KBr.out.size)); have HBR2 := Lib.hid (HBRr.out.keep be2); have HT2 := Lib.hid (tabs_below HTr.out be2)
            clear be2 r0 r1 r2 f0 f1 f2 lt
            dsimp only
            go_wp2_with fail
            go_roundw
            case rel => exact ⟨k + K, C2, K2, m - K, Z, by rw [← HS.out]; simp; omega, by trivial, by trivial, by trivial, HZm.out, by omega, by omega, by omega, by have := HNr.out; omega, Lib.hid (by have := HNr.out; omega), HZ2, KB2, HBR2, HT2, Lib.hid (fun h => by omega)⟩
            case measure => simp only [strSize]; have := HZm.out; omega
end Go.Proofs.YtcnembabenlheaaDoor
