/-
  strings.Builder: copyCheck, WriteString, WriteRune.
-/
import Derived.Test.YtocciemgdikmjaaDoorR1
import Derived.Test.YtocciemgdikmjaaDoorM2
namespace Go.Proofs.YtocciemgdikmjaaDoor
open Go.ChangeShapes Go.WideShapes Go.ChangeAt Go.RowKit
open Go.Lib (decodeGo encodeRuneZ encodeRuneZ_length)
set_option linter.unusedVariables false
theorem sizeBld : (Tryd.prog.info? 115).map (·.size) = some 2 := by kernel_rfl
theorem liesBld : liesAt Tryd.prog Tryd.prog.depth 115 (2 / Tryd.prog.cellsOf 115) 0 115 1 = true := by kernel_rfl
set_option maxRecDepth 100000 in
set_option maxHeartbeats 2000000 in
theorem cc104_used (b : Nat) (w : World) (h0 : w.cell? ⟨b, 0, none⟩ = some (.pointer (some ⟨b, 0, none⟩))) :
    Calls Tryd.prog 104 #[.pointer (some ⟨b, 0, none⟩)] w fun e w' => e = .returned (.tuple #[]) ∧ w = w' := by
  obtain ⟨j, hj, _⟩ := Option.map_eq_some_iff.1 sizeBld
  go_enter Tryd.func104, Tryd.ntmps104
  go_wp2
  rw [Lib.run_neq_ptr_same w _ Tryd.underlying113 hj]
  go_wp2
  go_end0
  exact ⟨rfl, rfl⟩
set_option maxRecDepth 100000 in
set_option maxHeartbeats 2000000 in
theorem cc104_fresh (b : Nat) (w : World) (h0 : w.cell? ⟨b, 0, none⟩ = some (.pointer none)) (hsh : w.shape? b = some (115, 2)) (hfz : w.frozen? ⟨b, 0, none⟩ = false) :
    Calls Tryd.prog 104 #[.pointer (some ⟨b, 0, none⟩)] w fun e w' => e = .returned (.tuple #[]) ∧ w.setCell ⟨b, 0, none⟩ (.pointer (some ⟨b, 0, none⟩)) = w' := by
  obtain ⟨j, hj, hjs⟩ := Option.map_eq_some_iff.1 sizeBld
  go_enter Tryd.func104, Tryd.ntmps104
  go_wp2
  rw [Lib.run_to_unsafe w ⟨b, 0, none⟩ Tryd.underlying113 Tryd.underlying158 hj (by rw [hjs]; decide) hsh (Nat.zero_lt_succ 1)]
  simp only [Result.andThen]
  rw [Oper.upon_value]
  go_wp2
  rw [run_callFunc_extern Tryd.func114 (by kernel_rfl) (by kernel_rfl) (by kernel_rfl) (e := Extern.AbiNoEscape.same) (by kernel_rfl)]
  rw [Lib.run_noEscape]
  simp only [Result.andThen]
  rw [Oper.upon_value]
  go_wp2
  rw [Lib.run_from_unsafe w ⟨b, 0, none⟩ Tryd.underlying158 Tryd.underlying113 hj hsh liesBld]
  simp only [Result.andThen]
  rw [Oper.upon_value]
  go_wp2
  go_end0
  exact ⟨rfl, rfl⟩
theorem cc104 (B b : Nat) (bs : List Value) (w : World) (h : Lib.IsBuilder 115 5 B b bs w) :
    Calls Tryd.prog 104 #[.pointer (some ⟨b, 0, none⟩)] w fun e w' => e = .returned (.tuple #[]) ∧ Lib.BuilderAt 115 5 B b (.pointer (some ⟨b, 0, none⟩)) bs w' ∧ Below B w w' := by
  rcases h with h | h
  · refine (cc104_fresh b w h.cell0 h.shape h.frozen0).mono ?_
    rintro e w' ⟨rfl, rfl⟩
    exact ⟨rfl, h.used _, (Below.refl B w).setCell (p := ⟨b, 0, none⟩) h.1 _⟩
  · refine (cc104_used b w h.cell0).mono ?_
    rintro e w' ⟨rfl, rfl⟩
    exact ⟨rfl, h, Below.refl B _⟩
set_option maxHeartbeats 2000000 in
set_option maxRecDepth 100000 in
/-- WriteRune -/
theorem wr85 (B b : Nat) (bs : List Value) (r : Int) (hr0 : -2147483648 ≤ r) (hr1 : r ≤ 2147483647) (w : World) (h : Lib.IsBuilder 115 5 B b bs w) (hlen : bs.length ≤ 8388608) (hBw : B ≤ w.heap.size) :
    Calls Tryd.prog 85 #[.pointer (some ⟨b, 0, none⟩), .int .i32 r] w fun e w' => (∃ n, e = .returned (.tuple #[.int .i64 n, .nilIface])) ∧ Lib.IsBuilder 115 5 B b (bs ++ Lib.runeCells r) w' ∧ Below B w w' := by
  have hk4 := Lib.runeCells_le r
  have HK4 := Lib.hid hk4
  clear hk4
  go_enter Tryd.func85, Tryd.ntmps85
  go_wp2_with fail
  refine (cc104 B b bs w h).mono ?_
  rintro e w1 ⟨rfl, h1, hb1⟩
  obtain ⟨hB, v, hbk, hown, hne⟩ := h1
  obtain ⟨ao, cap, rfl⟩ : ∃ ao cap, v = .slice ao bs.length cap := by
    rcases hown.2 with ⟨hv, h0⟩ | ⟨g, cap, cur, hv, _⟩
    · exact ⟨none, 0, by rw [hv, h0]⟩
    · exact ⟨_, _, hv⟩
  have c0 : w1.cell? ⟨b, 0, none⟩ = some (.pointer (some ⟨b, 0, none⟩)) := by rw [Lib.cell_of_heap hbk]; rfl
  have c1 : w1.cell? ⟨b, 1, none⟩ = some (.slice ao bs.length cap) := by rw [Lib.cell_of_heap hbk]; rfl
  have HBK := Lib.hid hbk; have HO := Lib.hid hown; have HNE := Lib.hid hne; have KB := Lib.hid hb1; have HS := hb1.size
  clear hbk hown hne hb1
  dsimp only
  go_wp2_with fail
  refine (Tryd.utf8_AppendRune_plain B _ bs.length bs r hr0 hr1 _ HO.out (by omega) (by omega)).mono ?_
  rintro e w2 ⟨v', rfl, hown', o, hgrow⟩
  have hlt : b < w1.heap.size := by
    rcases Nat.lt_or_ge b w1.heap.size with h' | h'
    · exact h'
    · have := HBK.out; simp [Array.getElem?_eq_none h'] at this
  have hb2 : w2.heap[b]? = some (.cells #[.pointer (some ⟨b, 0, none⟩), .slice ao bs.length cap] 115 (0, 0)) := by
    rw [hgrow.block b (by simp; omega) (fun e => HNE.out e.symm)]
    exact (Lib.alloc_old w1 _ b hlt).trans HBK.out
  have d0 : w2.cell? ⟨b, 0, none⟩ = some (.pointer (some ⟨b, 0, none⟩)) := by rw [Lib.cell_of_heap hb2]; rfl
  have d1 : w2.cell? ⟨b, 1, none⟩ = some (.slice ao bs.length cap) := by rw [Lib.cell_of_heap hb2]; rfl
  have f1 : w2.frozen? ⟨b, 1, none⟩ = false := Lib.frozen_of_heap hb2 1
  obtain ⟨n2, hn2⟩ : ∃ n, (Lib.runeCells r).length = n := ⟨_, rfl⟩
  rw [hn2] at hown' HK4
  obtain ⟨ao', cap', rfl⟩ : ∃ ao cap, v' = .slice ao (bs.length + n2) cap := by
    rcases hown'.2 with ⟨hv, h0⟩ | ⟨g, cap, cur, hv, _⟩
    · exact ⟨none, 0, by rw [hv, h0]⟩
    · exact ⟨_, _, hv⟩
  have HB2 := Lib.hid hb2; have HO2 := Lib.hid hown'; have HG := Lib.hid hgrow; have HN2 := Lib.hid hn2
  have hk4 := HK4.out.2
  clear hb2 hown' hgrow hn2
  dsimp only
  go_wp2_with fail
  go_ret2
  refine ⟨⟨_, rfl⟩, ?_, ?_⟩
  · exact Or.inr (Lib.BuilderAt.put (T := 115) (e := 5) hB HB2.out (bs' := bs ++ Lib.runeCells r) (by rw [List.length_append, HN2.out]; exact HO2.out) (by decide))
  · exact ((KB.out.alloc (by omega) _).grown HG.out (by simp; omega) (fun k hk => (HO.out.lt k hk).1)).setCell (p := ⟨b, 1, none⟩) hB _
theorem own_slice {w : World} {B e n : Nat} {v : Value} {m : Nat} {xs : List Value} (h : w.ownsRow B e n v m xs) : ∃ ao k cap, v = .slice ao k cap := by
  rcases h.2 with ⟨hv, _⟩ | ⟨g, cap, cur, hv, _⟩
  · exact ⟨_, _, _, hv⟩
  · exact ⟨_, _, _, hv⟩
set_option maxHeartbeats 2000000 in
set_option maxRecDepth 100000 in
/-- WriteString -/
theorem ws84 (B b : Nat) (bs : List Value) (s : ByteArray) (w : World) (h : Lib.IsBuilder 115 5 B b bs w) (hlen : bs.length ≤ 8388608) (hs : s.size ≤ 8388608) (hBw : B ≤ w.heap.size) :
    Calls Tryd.prog 84 #[.pointer (some ⟨b, 0, none⟩), .string s] w fun e w' => (∃ n, e = .returned (.tuple #[.int .i64 n, .nilIface])) ∧ Lib.IsBuilder 115 5 B b (bs ++ Lib.strCells s) w' ∧ Below B w w' := by
  obtain ⟨i0, hin, hz0, hz1, hz2⟩ := info_parts infoB
  go_enter Tryd.func84, Tryd.ntmps84
  go_wp2_with fail
  refine (cc104 B b bs w h).mono ?_
  rintro e w1 ⟨rfl, h1, hb1⟩
  obtain ⟨hB, v, hbk, hown, hne⟩ := h1
  have c0 : w1.cell? ⟨b, 0, none⟩ = some (.pointer (some ⟨b, 0, none⟩)) := by rw [Lib.cell_of_heap hbk]; rfl
  have c1 : w1.cell? ⟨b, 1, none⟩ = some v := by rw [Lib.cell_of_heap hbk]; rfl
  have HBK := Lib.hid hbk; have HO := Lib.hid hown; have HNE := Lib.hid hne; have KB := Lib.hid hb1; have HS := hb1.size
  clear hbk hown hne hb1
  dsimp only
  go_wp2_with (at_builtin; refine Lib.wpList_append_own_string _ rfl _ _ 82 9 rfl B 5 i0 Tryd.underlying82 Tryd.underlying9 hin hz0 hz1 hz2 _ _ _ rfl HO.out s rfl (by unfold maxLen; omega) (by omega) (by omega) ?_; intro v' w2 hown' hgrow hnn; obtain ⟨ao, n', cap, rfl⟩ := own_slice hown'; have HO2 := Lib.hid hown'; have HG := Lib.hid hgrow; clear hown' hgrow hnn; have hlt : b < w1.heap.size := (Array.getElem?_eq_some_iff.1 HBK.out).1; have hb2 : w2.heap[b]? = some (.cells #[.pointer (some ⟨b, 0, none⟩), v] 115 (0, 0)) := (HG.out.block b hlt (fun e => HNE.out e.symm)).trans HBK.out; have d0 : w2.cell? ⟨b, 0, none⟩ = some (.pointer (some ⟨b, 0, none⟩)) := by { rw [Lib.cell_of_heap hb2]; rfl }; have d1 : w2.cell? ⟨b, 1, none⟩ = some v := by { rw [Lib.cell_of_heap hb2]; rfl }; have f1 : w2.frozen? ⟨b, 1, none⟩ = false := Lib.frozen_of_heap hb2 1; have HB2 := Lib.hid hb2; clear hb2)
  go_ret2
  refine ⟨⟨_, rfl⟩, ?_, ?_⟩
  · exact Or.inr (Lib.BuilderAt.put (T := 115) (e := 5) hB HB2.out (bs' := bs ++ Lib.strCells s) (by rw [List.length_append, Lib.strCells_length]; exact HO2.out) (by decide))
  · exact (KB.out.grown HG.out (by omega) (fun k hk => (HO.out.lt k hk).1)).setCell (p := ⟨b, 1, none⟩) hB _
def u8s (xs : List Int) : List UInt8 := xs.map fun n => UInt8.ofNat n.toNat
theorem strOf_u8s (xs : List Int) : strOfNums xs = ⟨(u8s xs).toArray⟩ := rfl
theorem u8s_app (a b : List Int) : u8s (a ++ b) = u8s a ++ u8s b := by simp [u8s]
theorem u8s_len (a : List Int) : (u8s a).length = a.length := by simp [u8s]
theorem cells_str (xs : List Int) : Lib.strCells (strOfNums xs) = Lib.byteCells (u8s xs) := rfl
theorem cells_rune (xs : List Int) (r : Int) : Lib.byteCells (u8s xs) ++ Lib.runeCells r = Lib.byteCells (u8s (xs ++ encodeRuneZ r)) := by
  rw [u8s_app, Lib.byteCells_append, ← Lib.byteCells_encodeRune]; rfl
theorem isb_keep {B b : Nat} {bs : List Value} {w w' : World} (h : Lib.IsBuilder 115 5 B b bs w) (hb : Below w.heap.size w w') : Lib.IsBuilder 115 5 B b bs w' := by
  have key : ∀ p, Lib.BuilderAt 115 5 B b p bs w → Lib.BuilderAt 115 5 B b p bs w' := by
    rintro p ⟨h1, v, h2, h3, h4⟩
    refine ⟨h1, v, ?_, ?_, h4⟩
    · rw [hb.block b (Array.getElem?_eq_some_iff.1 h2).1]; exact h2
    · rcases h3 with ⟨hl, h0 | ⟨g, cap, cur, rfl, hB, hg, hr⟩⟩
      · exact ⟨hl, Or.inl h0⟩
      · exact ⟨hl, Or.inr ⟨g, cap, cur, rfl, hB, by rw [hb.block g (Array.getElem?_eq_some_iff.1 hg).1]; exact hg, hr⟩⟩
  rcases h with h | h
  · exact Or.inl (key _ h)
  · exact Or.inr (key _ h)
theorem isb_keepG {B b : Nat} {bs : List Value} {w w' : World} (h : Lib.IsBuilder 115 5 B b bs w) (g : Nat) (hg : g < B) (hb : w.grownBy w' (some g)) : Lib.IsBuilder 115 5 B b bs w' := by
  have key : ∀ p, Lib.BuilderAt 115 5 B b p bs w → Lib.BuilderAt 115 5 B b p bs w' := by
    rintro p ⟨h1, v, h2, h3, h4⟩
    refine ⟨h1, v, ?_, own_keep h3 g hg hb, h4⟩
    rw [hb.block b (Array.getElem?_eq_some_iff.1 h2).1 (fun e => by injection e with e; omega)]; exact h2
  rcases h with h | h
  · exact Or.inl (key _ h)
  · exact Or.inr (key _ h)
end Go.Proofs.YtocciemgdikmjaaDoor
