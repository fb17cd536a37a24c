/-
  bytes.IndexByte over the alphabet; DecodeVLQ.
-/
import Derived.Test.YtbigamkmkmfdfaaDoorL0
import Derived.Test.YtbigamkmkmfdfaaDoorShelf
namespace Go.Proofs.YtbigamkmkmfdfaaDoor
open Go.ChangeShapes Go.WideShapes Go.ChangeAt Go.RowKit
set_option linter.unusedVariables false
def b64i : List Int := b64.map fun (n : Nat) => (n : Int)
theorem index_nat : ∀ n : Nat, n < 256 → Lib.indexByte (Lib.bytesOf b64i) n.toUInt8 = dgt (n : Int) := by decide +kernel
theorem index_is (x : Int) (h0 : 0 ≤ x) (h1 : x < 256) : Lib.indexByte (Lib.bytesOf b64i) x.toNat.toUInt8 = dgt x := by
  obtain ⟨n, rfl⟩ := Int.eq_ofNat_of_zero_le h0
  exact index_nat n (by omega)
/-- the table, in a world -/
structure Tab (w : World) (R o c : Nat) : Prop where
  var : w.cell? ⟨0, 0, none⟩ = some (.slice (some ⟨R, o, none⟩) 64 c)
  row : ∀ j, j < 64 → w.cell? ⟨R, o + j, none⟩ = some (.int .u8 (b64i.getD j 0))
theorem tab_in {w : World} (h : Lib.TabSlice 0 .u8 b64 w) : ∃ R o c, Tab w R o c := by
  obtain ⟨R, o, c, h1, h2⟩ := h
  refine ⟨R, o, c, h1, fun j hj => ?_⟩
  rw [h2 j hj]
  have hl : b64.length = 64 := by decide
  have : b64i.getD j 0 = ((b64.getD j 0 : Nat) : Int) := by
    simp [b64i, List.getD, show j < b64.length by omega]
  rw [this]
theorem Tab.below {w w' : World} {R o c : Nat} (h : Tab w R o c) (hb : Below w.heap.size w w') : Tab w' R o c :=
  ⟨by rw [hb.cell (block_lt_of_cell h.var)]; exact h.var, fun j hj => by rw [hb.cell (block_lt_of_cell (h.row j hj))]; exact h.row j hj⟩
theorem idx35 {w : World} {R o c : Nat} (h : Tab w R o c) (x d : Int) (hx : 0 ≤ x ∧ x < 256) (hd : dgt x = d) (w' : World) (hw : ∃ n, w' = w.drewN n) :
    Calls Tryd.prog 35 #[.slice (some ⟨R, o, none⟩) 64 c, .int .u8 x] w' fun e w'' => e = .returned (.int .i64 d) ∧ w'' = w' := by
  obtain ⟨n, rfl⟩ := hw
  have := Tryd.bytes_IndexByte R o 64 c b64i x (w.drewN n) (by decide) (fun i hi => h.row i hi)
  rw [index_is x hx.1 hx.2, hd] at this
  exact this
theorem ret_two {a b c d : Int} (h1 : a = c) (h2 : b = d) : Ending.returned (.tuple #[.int .i64 a, .int .i64 b]) = .returned (.tuple #[.int .i64 c, .int .i64 d]) := by rw [h1, h2]
theorem sgn_even (V : Nat) (h : V % 2 = 0) : sgn V = ((V : Int) / 2) := by unfold sgn; rw [if_neg (by omega)]; omega
theorem sgn_odd (V : Nat) (h : V % 2 = 1) : sgn V = -((V : Int) / 2) := by unfold sgn; rw [if_pos h]; omega
set_option maxRecDepth 100000 in
set_option maxHeartbeats 8000000 in
theorem dec16 (w : World) (p : Option Addr) (n c : Nat) (xs : List Int) (start e0 : Nat) (hB : Bytes w (.slice p n c) xs) (hx : ∀ x ∈ xs, 0 ≤ x ∧ x < 256) (hn : n ≤ 2097152) (R o cc : Nat) (hT : Tab w R o cc) (hS : Scan xs start e0) (h7 : e0 ≤ start + 7) :
    Calls Tryd.prog 16 #[.slice p n c, .int .i64 start] w fun e w' => e = .returned (.tuple #[.int .i64 (sgn (val xs start (e0 - start))), .int .i64 e0]) ∧ ∃ m, w' = w.drewN m := by
  obtain ⟨q, cq, eq, hcq, hi⟩ := hB
  obtain ⟨rfl, rfl, rfl⟩ : q = p ∧ xs.length = n ∧ cq = c := by cases eq; exact ⟨rfl, rfl, rfl⟩
  have hlt : start < xs.length := by
    cases hS with
    | bad h => assumption
    | last h => assumption
    | more _ h => assumption
  obtain ⟨a, rfl, _⟩ := hi 0 (by omega)
  have HI := Lib.hid (show ∀ i, i < xs.length → w.cell? (a.add i) = some (.int .u8 (xs.getD i 0)) from fun i h => by
    obtain ⟨a', ha, hc⟩ := hi i h
    cases ha
    exact hc)
  have HX := Lib.hid (show ∀ i, i < xs.length → 0 ≤ xs.getD i 0 ∧ xs.getD i 0 < 256 from fun i h => by
    have : xs.getD i 0 = xs[i] := by simp [List.getD, h]
    rw [this]; exact hx _ (List.getElem_mem h))
  have HT := Lib.hid hT
  have HS := Lib.hid hS
  clear hi hx hT hS eq hlt
  go_enter Tryd.func16, Tryd.ntmps16
  go_wp2_with fail
  go_loopw [1, 6, 7] (fun s sh vq w' => ∃ j : Nat, Hid (∃ m, w' = w.drewN m) ∧ s = .int .i64 (start + j : Nat) ∧ sh = .int .i64 (5 * j : Nat) ∧ vq = .int .i64 (val xs start j) ∧ start + j ≤ e0 ∧ Hid (Scan xs (start + j) e0)) (fun s _ _ _ => e0 + 1 - (intOf s).toNat)
  case atStart => exact ⟨0, Lib.hid ⟨0, rfl⟩, rfl, rfl, rfl, HS.out.le, HS⟩
  case round =>
    obtain ⟨j, hm, rfl, rfl, rfl, hje, hSj⟩ := hrel
    obtain ⟨k, hk⟩ : ∃ k, start + j = k := ⟨_, rfl⟩
    obtain ⟨v, hv⟩ : ∃ v, val xs start j = v := ⟨_, rfl⟩
    have hvl : v < 2 ^ (5 * j) := by rw [← hv]; exact val_lt xs j start
    rw [hk] at hje hSj ⊢
    rw [hv]
    have HK := Lib.hid hk; have HV := Lib.hid hv
    have hkl : k < xs.length := by
      cases hSj.out with
      | bad h => assumption
      | last h => assumption
      | more _ h => assumption
    obtain ⟨x, hx⟩ : ∃ x, xs.getD k 0 = x := ⟨_, rfl⟩
    have hcell : wr.cell? (a.add k) = some (.int .u8 x) := by
      obtain ⟨m, rfl⟩ := hm.out
      rw [← hx]; exact HI.out k hkl
    have hvar : wr.cell? ⟨0, 0, none⟩ = some (.slice (some ⟨R, o, none⟩) 64 cc) := by
      obtain ⟨m, rfl⟩ := hm.out
      exact HT.out.var
    have hxr : 0 ≤ x ∧ x < 256 := by rw [← hx]; exact HX.out k hkl
    have HTr := Lib.hid (show Tab wr R o cc by
      obtain ⟨m, rfl⟩ := hm.out
      exact ⟨HT.out.var, HT.out.row⟩)
    have HXK := Lib.hid hx
    clear hk hv
    have hcase : (dgt x < 0 ∧ e0 = k) ∨ ((0 ≤ dgt x ∧ dgt x < 32) ∧ e0 = k + 1) ∨ (32 ≤ dgt x ∧ Hid (Scan xs (k + 1) e0)) := by
      rw [← hx]
      cases hSj.out with
      | bad _ _ h2 => exact Or.inl ⟨h2, rfl⟩
      | last _ _ h2 h3 => exact Or.inr (Or.inl ⟨⟨h2, h3⟩, rfl⟩)
      | more _ _ _ h2 h3 => exact Or.inr (Or.inr ⟨h2, Lib.hid h3⟩)
    clear hx hSj
    have hdl := dgt_lt x
    rcases hcase with ⟨h1, rfl⟩ | ⟨⟨h1, h1'⟩, rfl⟩ | ⟨h1, h2⟩
    · have hd : dgt x = -1 := by have := dgt_ge x; omega
      have HD := Lib.hid (fun w' hw => idx35 HTr.out x (-1) hxr hd w' hw)
      have hj7 : j ≤ 7 := by have := HK.out; omega
      have hv35 : v < 34359738368 := Nat.lt_of_lt_of_le hvl (by have : 2 ^ (5 * j) ≤ 2 ^ 35 := Nat.pow_le_pow_right (by omega) (by omega); omega)
      clear h1 hd hdl hvl
      by_cases hpar : v % 2 = 1
      · have g5 : (bits .and .i64 (v : Int) 1 != 0) = true := by rw [and1 v (by omega), hpar]; rfl
        go_wp2_with fail
        go_quiet ((go_at_call 35; refine Calls.quiet_of_same (HD.out _ ⟨_, rfl⟩)))
        go_wp2_with fail
        go_ret2
        refine ⟨ret_two ?_ rfl, ?_⟩
        · rw [show e0 - start = j by have := HK.out; omega, HV.out, sgn_odd v hpar]
        · obtain ⟨m, rfl⟩ := hm.out
          exact ⟨m + nq, World.drewN_drewN _ _ _⟩
      · have g5 : (bits .and .i64 (v : Int) 1 != 0) = false := by rw [and1 v (by omega), show v % 2 = 0 by omega]; rfl
        go_wp2_with fail
        go_quiet ((go_at_call 35; refine Calls.quiet_of_same (HD.out _ ⟨_, rfl⟩)))
        go_wp2_with fail
        go_ret2
        refine ⟨ret_two ?_ rfl, ?_⟩
        · rw [show e0 - start = j by have := HK.out; omega, HV.out, sgn_even v (by omega)]
        · obtain ⟨m, rfl⟩ := hm.out
          exact ⟨m + nq, World.drewN_drewN _ _ _⟩
    · obtain ⟨d, hd⟩ := Int.eq_ofNat_of_zero_le (show 0 ≤ dgt x by omega)
      have HD := Lib.hid (fun w' hw => idx35 HTr.out x d hxr hd w' hw)
      have hj6 : j ≤ 6 := by have := HK.out; omega
      have hds : d < 64 := by omega
      have g4 : (bits .and .i64 (d : Int) 32 == 0) = true := by rw [and32 d hds]; simp; omega
      have HDD := Lib.hid (show (dgt (xs.getD k 0)).toNat % 32 = d % 32 by rw [HXK.out, hd]; simp)
      obtain ⟨D1, g1⟩ : ∃ D1, bits .and .i64 (d : Int) 31 = D1 := ⟨_, rfl⟩
      have hD1 : D1 = ((d % 32 : Nat) : Int) := by rw [← g1]; exact and31 d (by omega)
      have hor := fun (C : Nat) (hC : v < 2 ^ C) (h30 : C ≤ 30) => or_join v (d % 32) C hC (by omega) h30
      clear h1 h1' hd hdl
      have hj : j = 0 ∨ j = 1 ∨ j = 2 ∨ j = 3 ∨ j = 4 ∨ j = 5 ∨ j = 6 := by omega
      clear hj6
      rcases hj with rfl | rfl | rfl | rfl | rfl | rfl | rfl
      · have hor1 := hor 0 hvl (by omega)
        obtain ⟨D2, g2⟩ : ∃ D2, wrap64 D1 = D2 := ⟨_, rfl⟩
        have hD2 : D2 = ((d % 32 * 2 ^ 0 : Nat) : Int) := by rw [← g2, hD1]; unfold wrap64; have : d % 32 < 32 := Nat.mod_lt _ (by omega); omega
        obtain ⟨V1, g3⟩ : ∃ V1, bits .or .i64 (v : Int) D2 = V1 := ⟨_, rfl⟩
        obtain ⟨N1, hN1⟩ : ∃ N1, v + d % 32 * 2 ^ 0 = N1 := ⟨_, rfl⟩
        have hV1 : V1 = (N1 : Int) := by rw [← g3, hD2, hor1, hN1]
        have hb : N1 < 68719476736 := by have : d % 32 < 32 := Nat.mod_lt _ (by omega); have := hvl; omega
        subst hV1
        have HN1 := Lib.hid (show val xs start (0 + 1) = N1 by rw [val_snoc, HV.out, HK.out, HDD.out]; exact hN1)
        clear hor hor1 hD1 hD2 hvl hN1
        by_cases hpar : N1 % 2 = 1
        · have g5 : (bits .and .i64 (N1 : Int) 1 != 0) = true := by rw [and1 N1 (by omega), hpar]; rfl
          go_wp2_with fail
          go_quiet ((go_at_call 35; refine Calls.quiet_of_same (HD.out _ ⟨_, rfl⟩)))
          go_wp2_with fail
          go_ret2
          refine ⟨ret_two ?_ (by simp), ?_⟩
          · rw [show k + 1 - start = 0 + 1 by have := HK.out; omega, HN1.out, sgn_odd N1 hpar]
          · obtain ⟨m, rfl⟩ := hm.out
            exact ⟨m + nq, World.drewN_drewN _ _ _⟩
        · have g5 : (bits .and .i64 (N1 : Int) 1 != 0) = false := by rw [and1 N1 (by omega), show N1 % 2 = 0 by omega]; rfl
          go_wp2_with fail
          go_quiet ((go_at_call 35; refine Calls.quiet_of_same (HD.out _ ⟨_, rfl⟩)))
          go_wp2_with fail
          go_ret2
          refine ⟨ret_two ?_ (by simp), ?_⟩
          · rw [show k + 1 - start = 0 + 1 by have := HK.out; omega, HN1.out, sgn_even N1 (by omega)]
          · obtain ⟨m, rfl⟩ := hm.out
            exact ⟨m + nq, World.drewN_drewN _ _ _⟩
      · have hor1 := hor 5 hvl (by omega)
        obtain ⟨D2, g2⟩ : ∃ D2, wrap64 (D1 * 32) = D2 := ⟨_, rfl⟩
        have hD2 : D2 = ((d % 32 * 2 ^ 5 : Nat) : Int) := by rw [← g2, hD1]; unfold wrap64; have : d % 32 < 32 := Nat.mod_lt _ (by omega); omega
        obtain ⟨V1, g3⟩ : ∃ V1, bits .or .i64 (v : Int) D2 = V1 := ⟨_, rfl⟩
        obtain ⟨N1, hN1⟩ : ∃ N1, v + d % 32 * 2 ^ 5 = N1 := ⟨_, rfl⟩
        have hV1 : V1 = (N1 : Int) := by rw [← g3, hD2, hor1, hN1]
        have hb : N1 < 68719476736 := by have : d % 32 < 32 := Nat.mod_lt _ (by omega); have := hvl; omega
        subst hV1
        have HN1 := Lib.hid (show val xs start (1 + 1) = N1 by rw [val_snoc, HV.out, HK.out, HDD.out]; exact hN1)
        clear hor hor1 hD1 hD2 hvl hN1
        by_cases hpar : N1 % 2 = 1
        · have g5 : (bits .and .i64 (N1 : Int) 1 != 0) = true := by rw [and1 N1 (by omega), hpar]; rfl
          go_wp2_with fail
          go_quiet ((go_at_call 35; refine Calls.quiet_of_same (HD.out _ ⟨_, rfl⟩)))
          go_wp2_with fail
          go_ret2
          refine ⟨ret_two ?_ (by simp), ?_⟩
          · rw [show k + 1 - start = 1 + 1 by have := HK.out; omega, HN1.out, sgn_odd N1 hpar]
          · obtain ⟨m, rfl⟩ := hm.out
            exact ⟨m + nq, World.drewN_drewN _ _ _⟩
        · have g5 : (bits .and .i64 (N1 : Int) 1 != 0) = false := by rw [and1 N1 (by omega), show N1 % 2 = 0 by omega]; rfl
          go_wp2_with fail
          go_quiet ((go_at_call 35; refine Calls.quiet_of_same (HD.out _ ⟨_, rfl⟩)))
          go_wp2_with fail
          go_ret2
          refine ⟨ret_two ?_ (by simp), ?_⟩
          · rw [show k + 1 - start = 1 + 1 by have := HK.out; omega, HN1.out, sgn_even N1 (by omega)]
          · obtain ⟨m, rfl⟩ := hm.out
            exact ⟨m + nq, World.drewN_drewN _ _ _⟩
      · have hor1 := hor 10 hvl (by omega)
        obtain ⟨D2, g2⟩ : ∃ D2, wrap64 (D1 * 1024) = D2 := ⟨_, rfl⟩
        have hD2 : D2 = ((d % 32 * 2 ^ 10 : Nat) : Int) := by rw [← g2, hD1]; unfold wrap64; have : d % 32 < 32 := Nat.mod_lt _ (by omega); omega
        obtain ⟨V1, g3⟩ : ∃ V1, bits .or .i64 (v : Int) D2 = V1 := ⟨_, rfl⟩
        obtain ⟨N1, hN1⟩ : ∃ N1, v + d % 32 * 2 ^ 10 = N1 := ⟨_, rfl⟩
        have hV1 : V1 = (N1 : Int) := by rw [← g3, hD2, hor1, hN1]
        have hb : N1 < 68719476736 := by have : d % 32 < 32 := Nat.mod_lt _ (by omega); have := hvl; omega
        subst hV1
        have HN1 := Lib.hid (show val xs start (2 + 1) = N1 by rw [val_snoc, HV.out, HK.out, HDD.out]; exact hN1)
        clear hor hor1 hD1 hD2 hvl hN1
        by_cases hpar : N1 % 2 = 1
        · have g5 : (bits .and .i64 (N1 : Int) 1 != 0) = true := by rw [and1 N1 (by omega), hpar]; rfl
          go_wp2_with fail
          go_quiet ((go_at_call 35; refine Calls.quiet_of_same (HD.out _ ⟨_, rfl⟩)))
          go_wp2_with fail
          go_ret2
          refine ⟨ret_two ?_ (by simp), ?_⟩
          · rw [show k + 1 - start = 2 + 1 by have := HK.out; omega, HN1.out, sgn_odd N1 hpar]
          · obtain ⟨m, rfl⟩ := hm.out
            exact ⟨m + nq, World.drewN_drewN _ _ _⟩
        · have g5 : (bits .and .i64 (N1 : Int) 1 != 0) = false := by rw [and1 N1 (by omega), show N1 % 2 = 0 by omega]; rfl
          go_wp2_with fail
          go_quiet ((go_at_call 35; refine Calls.quiet_of_same (HD.out _ ⟨_, rfl⟩)))
          go_wp2_with fail
          go_ret2
          refine ⟨ret_two ?_ (by simp), ?_⟩
          · rw [show k + 1 - start = 2 + 1 by have := HK.out; omega, HN1.out, sgn_even N1 (by omega)]
          · obtain ⟨m, rfl⟩ := hm.out
            exact ⟨m + nq, World.drewN_drewN _ _ _⟩
      · have hor1 := hor 15 hvl (by omega)
        obtain ⟨D2, g2⟩ : ∃ D2, wrap64 (D1 * 32768) = D2 := ⟨_, rfl⟩
        have hD2 : D2 = ((d % 32 * 2 ^ 15 : Nat) : Int) := by rw [← g2, hD1]; unfold wrap64; have : d % 32 < 32 := Nat.mod_lt _ (by omega); omega
        obtain ⟨V1, g3⟩ : ∃ V1, bits .or .i64 (v : Int) D2 = V1 := ⟨_, rfl⟩
        obtain ⟨N1, hN1⟩ : ∃ N1, v + d % 32 * 2 ^ 15 = N1 := ⟨_, rfl⟩
        have hV1 : V1 = (N1 : Int) := by rw [← g3, hD2, hor1, hN1]
        have hb : N1 < 68719476736 := by have : d % 32 < 32 := Nat.mod_lt _ (by omega); have := hvl; omega
        subst hV1
        have HN1 := Lib.hid (show val xs start (3 + 1) = N1 by rw [val_snoc, HV.out, HK.out, HDD.out]; exact hN1)
        clear hor hor1 hD1 hD2 hvl hN1
        by_cases hpar : N1 % 2 = 1
        · have g5 : (bits .and .i64 (N1 : Int) 1 != 0) = true := by rw [and1 N1 (by omega), hpar]; rfl
          go_wp2_with fail
          go_quiet ((go_at_call 35; refine Calls.quiet_of_same (HD.out _ ⟨_, rfl⟩)))
          go_wp2_with fail
          go_ret2
          refine ⟨ret_two ?_ (by simp), ?_⟩
          · rw [show k + 1 - start = 3 + 1 by have := HK.out; omega, HN1.out, sgn_odd N1 hpar]
          · obtain ⟨m, rfl⟩ := hm.out
            exact ⟨m + nq, World.drewN_drewN _ _ _⟩
        · have g5 : (bits .and .i64 (N1 : Int) 1 != 0) = false := by rw [and1 N1 (by omega), show N1 % 2 = 0 by omega]; rfl
          go_wp2_with fail
          go_quiet ((go_at_call 35; refine Calls.quiet_of_same (HD.out _ ⟨_, rfl⟩)))
          go_wp2_with fail
          go_ret2
          refine ⟨ret_two ?_ (by simp), ?_⟩
          · rw [show k + 1 - start = 3 + 1 by have := HK.out; omega, HN1.out, sgn_even N1 (by omega)]
          · obtain ⟨m, rfl⟩ := hm.out
            exact ⟨m + nq, World.drewN_drewN _ _ _⟩
      · have hor1 := hor 20 hvl (by omega)
        obtain ⟨D2, g2⟩ : ∃ D2, wrap64 (D1 * 1048576) = D2 := ⟨_, rfl⟩
        have hD2 : D2 = ((d % 32 * 2 ^ 20 : Nat) : Int) := by rw [← g2, hD1]; unfold wrap64; have : d % 32 < 32 := Nat.mod_lt _ (by omega); omega
        obtain ⟨V1, g3⟩ : ∃ V1, bits .or .i64 (v : Int) D2 = V1 := ⟨_, rfl⟩
        obtain ⟨N1, hN1⟩ : ∃ N1, v + d % 32 * 2 ^ 20 = N1 := ⟨_, rfl⟩
        have hV1 : V1 = (N1 : Int) := by rw [← g3, hD2, hor1, hN1]
        have hb : N1 < 68719476736 := by have : d % 32 < 32 := Nat.mod_lt _ (by omega); have := hvl; omega
        subst hV1
        have HN1 := Lib.hid (show val xs start (4 + 1) = N1 by rw [val_snoc, HV.out, HK.out, HDD.out]; exact hN1)
        clear hor hor1 hD1 hD2 hvl hN1
        by_cases hpar : N1 % 2 = 1
        · have g5 : (bits .and .i64 (N1 : Int) 1 != 0) = true := by rw [and1 N1 (by omega), hpar]; rfl
          go_wp2_with fail
          go_quiet ((go_at_call 35; refine Calls.quiet_of_same (HD.out _ ⟨_, rfl⟩)))
          go_wp2_with fail
          go_ret2
          refine ⟨ret_two ?_ (by simp), ?_⟩
          · rw [show k + 1 - start = 4 + 1 by have := HK.out; omega, HN1.out, sgn_odd N1 hpar]
          · obtain ⟨m, rfl⟩ := hm.out
            exact ⟨m + nq, World.drewN_drewN _ _ _⟩
        · have g5 : (bits .and .i64 (N1 : Int) 1 != 0) = false := by rw [and1 N1 (by omega), show N1 % 2 = 0 by omega]; rfl
          go_wp2_with fail
          go_quiet ((go_at_call 35; refine Calls.quiet_of_same (HD.out _ ⟨_, rfl⟩)))
          go_wp2_with fail
          go_ret2
          refine ⟨ret_two ?_ (by simp), ?_⟩
          · rw [show k + 1 - start = 4 + 1 by have := HK.out; omega, HN1.out, sgn_even N1 (by omega)]
          · obtain ⟨m, rfl⟩ := hm.out
            exact ⟨m + nq, World.drewN_drewN _ _ _⟩
      · have hor1 := hor 25 hvl (by omega)
        obtain ⟨D2, g2⟩ : ∃ D2, wrap64 (D1 * 33554432) = D2 := ⟨_, rfl⟩
        have hD2 : D2 = ((d % 32 * 2 ^ 25 : Nat) : Int) := by rw [← g2, hD1]; unfold wrap64; have : d % 32 < 32 := Nat.mod_lt _ (by omega); omega
        obtain ⟨V1, g3⟩ : ∃ V1, bits .or .i64 (v : Int) D2 = V1 := ⟨_, rfl⟩
        obtain ⟨N1, hN1⟩ : ∃ N1, v + d % 32 * 2 ^ 25 = N1 := ⟨_, rfl⟩
        have hV1 : V1 = (N1 : Int) := by rw [← g3, hD2, hor1, hN1]
        have hb : N1 < 68719476736 := by have : d % 32 < 32 := Nat.mod_lt _ (by omega); have := hvl; omega
        subst hV1
        have HN1 := Lib.hid (show val xs start (5 + 1) = N1 by rw [val_snoc, HV.out, HK.out, HDD.out]; exact hN1)
        clear hor hor1 hD1 hD2 hvl hN1
        by_cases hpar : N1 % 2 = 1
        · have g5 : (bits .and .i64 (N1 : Int) 1 != 0) = true := by rw [and1 N1 (by omega), hpar]; rfl
          go_wp2_with fail
          go_quiet ((go_at_call 35; refine Calls.quiet_of_same (HD.out _ ⟨_, rfl⟩)))
          go_wp2_with fail
          go_ret2
          refine ⟨ret_two ?_ (by simp), ?_⟩
          · rw [show k + 1 - start = 5 + 1 by have := HK.out; omega, HN1.out, sgn_odd N1 hpar]
          · obtain ⟨m, rfl⟩ := hm.out
            exact ⟨m + nq, World.drewN_drewN _ _ _⟩
        · have g5 : (bits .and .i64 (N1 : Int) 1 != 0) = false := by rw [and1 N1 (by omega), show N1 % 2 = 0 by omega]; rfl
          go_wp2_with fail
          go_quiet ((go_at_call 35; refine Calls.quiet_of_same (HD.out _ ⟨_, rfl⟩)))
          go_wp2_with fail
          go_ret2
          refine ⟨ret_two ?_ (by simp), ?_⟩
          · rw [show k + 1 - start = 5 + 1 by have := HK.out; omega, HN1.out, sgn_even N1 (by omega)]
          · obtain ⟨m, rfl⟩ := hm.out
            exact ⟨m + nq, World.drewN_drewN _ _ _⟩
      · have hor1 := hor 30 hvl (by omega)
        obtain ⟨D2, g2⟩ : ∃ D2, wrap64 (D1 * 1073741824) = D2 := ⟨_, rfl⟩
        have hD2 : D2 = ((d % 32 * 2 ^ 30 : Nat) : Int) := by rw [← g2, hD1]; unfold wrap64; have : d % 32 < 32 := Nat.mod_lt _ (by omega); omega
        obtain ⟨V1, g3⟩ : ∃ V1, bits .or .i64 (v : Int) D2 = V1 := ⟨_, rfl⟩
        obtain ⟨N1, hN1⟩ : ∃ N1, v + d % 32 * 2 ^ 30 = N1 := ⟨_, rfl⟩
        have hV1 : V1 = (N1 : Int) := by rw [← g3, hD2, hor1, hN1]
        have hb : N1 < 68719476736 := by have : d % 32 < 32 := Nat.mod_lt _ (by omega); have := hvl; omega
        subst hV1
        have HN1 := Lib.hid (show val xs start (6 + 1) = N1 by rw [val_snoc, HV.out, HK.out, HDD.out]; exact hN1)
        clear hor hor1 hD1 hD2 hvl hN1
        by_cases hpar : N1 % 2 = 1
        · have g5 : (bits .and .i64 (N1 : Int) 1 != 0) = true := by rw [and1 N1 (by omega), hpar]; rfl
          go_wp2_with fail
          go_quiet ((go_at_call 35; refine Calls.quiet_of_same (HD.out _ ⟨_, rfl⟩)))
          go_wp2_with fail
          go_ret2
          refine ⟨ret_two ?_ (by simp), ?_⟩
          · rw [show k + 1 - start = 6 + 1 by have := HK.out; omega, HN1.out, sgn_odd N1 hpar]
          · obtain ⟨m, rfl⟩ := hm.out
            exact ⟨m + nq, World.drewN_drewN _ _ _⟩
        · have g5 : (bits .and .i64 (N1 : Int) 1 != 0) = false := by rw [and1 N1 (by omega), show N1 % 2 = 0 by omega]; rfl
          go_wp2_with fail
          go_quiet ((go_at_call 35; refine Calls.quiet_of_same (HD.out _ ⟨_, rfl⟩)))
          go_wp2_with fail
          go_ret2
          refine ⟨ret_two ?_ (by simp), ?_⟩
          · rw [show k + 1 - start = 6 + 1 by have := HK.out; omega, HN1.out, sgn_even N1 (by omega)]
          · obtain ⟨m, rfl⟩ := hm.out
            exact ⟨m + nq, World.drewN_drewN _ _ _⟩
    · obtain ⟨d, hd⟩ := Int.eq_ofNat_of_zero_le (show 0 ≤ dgt x by omega)
      have HD := Lib.hid (fun w' hw => idx35 HTr.out x d hxr hd w' hw)
      have hj6 : j ≤ 6 := by have := HK.out; have := h2.out.le; omega
      have hds : d < 64 := by omega
      have g4 : (bits .and .i64 (d : Int) 32 == 0) = false := by rw [and32 d hds]; simp; omega
      have HDD := Lib.hid (show (dgt (xs.getD k 0)).toNat % 32 = d % 32 by rw [HXK.out, hd]; simp)
      obtain ⟨D1, g1⟩ : ∃ D1, bits .and .i64 (d : Int) 31 = D1 := ⟨_, rfl⟩
      have hD1 : D1 = ((d % 32 : Nat) : Int) := by rw [← g1]; exact and31 d (by omega)
      have hor := fun (C : Nat) (hC : v < 2 ^ C) (h30 : C ≤ 30) => or_join v (d % 32) C hC (by omega) h30
      clear h1 hd hdl
      have hj : j = 0 ∨ j = 1 ∨ j = 2 ∨ j = 3 ∨ j = 4 ∨ j = 5 ∨ j = 6 := by omega
      clear hj6
      rcases hj with rfl | rfl | rfl | rfl | rfl | rfl | rfl
      · have hor1 := hor 0 hvl (by omega)
        obtain ⟨D2, g2⟩ : ∃ D2, wrap64 D1 = D2 := ⟨_, rfl⟩
        have hD2 : D2 = ((d % 32 * 2 ^ 0 : Nat) : Int) := by rw [← g2, hD1]; unfold wrap64; have : d % 32 < 32 := Nat.mod_lt _ (by omega); omega
        obtain ⟨V1, g3⟩ : ∃ V1, bits .or .i64 (v : Int) D2 = V1 := ⟨_, rfl⟩
        obtain ⟨N1, hN1⟩ : ∃ N1, v + d % 32 * 2 ^ 0 = N1 := ⟨_, rfl⟩
        have hV1 : V1 = (N1 : Int) := by rw [← g3, hD2, hor1, hN1]
        have hb : N1 < 68719476736 := by have : d % 32 < 32 := Nat.mod_lt _ (by omega); have := hvl; omega
        subst hV1
        have HN1 := Lib.hid (show val xs start (0 + 1) = N1 by rw [val_snoc, HV.out, HK.out, HDD.out]; exact hN1)
        clear hor hor1 hD1 hD2 hvl hN1
        go_wp2_with fail
        go_quiet ((go_at_call 35; refine Calls.quiet_of_same (HD.out _ ⟨_, rfl⟩)))
        go_wp2_with fail
        go_roundw
        case rel =>
          refine ⟨0 + 1, ?_, by simp; have := HK.out; omega, by simp, by rw [HN1.out], by have := h2.out.le; have := HK.out; omega, by rw [show start + (0 + 1) = k + 1 by have := HK.out; omega]; exact h2⟩
          obtain ⟨m, rfl⟩ := hm.out
          exact Lib.hid ⟨m + nq, World.drewN_drewN _ _ _⟩
        case measure => simp only [intOf]; have := h2.out.le; omega
      · have hor1 := hor 5 hvl (by omega)
        obtain ⟨D2, g2⟩ : ∃ D2, wrap64 (D1 * 32) = D2 := ⟨_, rfl⟩
        have hD2 : D2 = ((d % 32 * 2 ^ 5 : Nat) : Int) := by rw [← g2, hD1]; unfold wrap64; have : d % 32 < 32 := Nat.mod_lt _ (by omega); omega
        obtain ⟨V1, g3⟩ : ∃ V1, bits .or .i64 (v : Int) D2 = V1 := ⟨_, rfl⟩
        obtain ⟨N1, hN1⟩ : ∃ N1, v + d % 32 * 2 ^ 5 = N1 := ⟨_, rfl⟩
        have hV1 : V1 = (N1 : Int) := by rw [← g3, hD2, hor1, hN1]
        have hb : N1 < 68719476736 := by have : d % 32 < 32 := Nat.mod_lt _ (by omega); have := hvl; omega
        subst hV1
        have HN1 := Lib.hid (show val xs start (1 + 1) = N1 by rw [val_snoc, HV.out, HK.out, HDD.out]; exact hN1)
        clear hor hor1 hD1 hD2 hvl hN1
        go_wp2_with fail
        go_quiet ((go_at_call 35; refine Calls.quiet_of_same (HD.out _ ⟨_, rfl⟩)))
        go_wp2_with fail
        go_roundw
        case rel =>
          refine ⟨1 + 1, ?_, by simp; have := HK.out; omega, by simp, by rw [HN1.out], by have := h2.out.le; have := HK.out; omega, by rw [show start + (1 + 1) = k + 1 by have := HK.out; omega]; exact h2⟩
          obtain ⟨m, rfl⟩ := hm.out
          exact Lib.hid ⟨m + nq, World.drewN_drewN _ _ _⟩
        case measure => simp only [intOf]; have := h2.out.le; omega
      · have hor1 := hor 10 hvl (by omega)
        obtain ⟨D2, g2⟩ : ∃ D2, wrap64 (D1 * 1024) = D2 := ⟨_, rfl⟩
        have hD2 : D2 = ((d % 32 * 2 ^ 10 : Nat) : Int) := by rw [← g2, hD1]; unfold wrap64; have : d % 32 < 32 := Nat.mod_lt _ (by omega); omega
        obtain ⟨V1, g3⟩ : ∃ V1, bits .or .i64 (v : Int) D2 = V1 := ⟨_, rfl⟩
        obtain ⟨N1, hN1⟩ : ∃ N1, v + d % 32 * 2 ^ 10 = N1 := ⟨_, rfl⟩
        have hV1 : V1 = (N1 : Int) := by rw [← g3, hD2, hor1, hN1]
        have hb : N1 < 68719476736 := by have : d % 32 < 32 := Nat.mod_lt _ (by omega); have := hvl; omega
        subst hV1
        have HN1 := Lib.hid (show val xs start (2 + 1) = N1 by rw [val_snoc, HV.out, HK.out, HDD.out]; exact hN1)
        clear hor hor1 hD1 hD2 hvl hN1
        go_wp2_with fail
        go_quiet ((go_at_call 35; refine Calls.quiet_of_same (HD.out _ ⟨_, rfl⟩)))
        go_wp2_with fail
        go_roundw
        case rel =>
          refine ⟨2 + 1, ?_, by simp; have := HK.out; omega, by simp, by rw [HN1.out], by have := h2.out.le; have := HK.out; omega, by rw [show start + (2 + 1) = k + 1 by have := HK.out; omega]; exact h2⟩
          obtain ⟨m, rfl⟩ := hm.out
          exact Lib.hid ⟨m + nq, World.drewN_drewN _ _ _⟩
        case measure => simp only [intOf]; have := h2.out.le; omega
      · have hor1 := hor 15 hvl (by omega)
        obtain ⟨D2, g2⟩ : ∃ D2, wrap64 (D1 * 32768) = D2 := ⟨_, rfl⟩
        have hD2 : D2 = ((d % 32 * 2 ^ 15 : Nat) : Int) := by rw [← g2, hD1]; unfold wrap64; have : d % 32 < 32 := Nat.mod_lt _ (by omega); omega
        obtain ⟨V1, g3⟩ : ∃ V1, bits .or .i64 (v : Int) D2 = V1 := ⟨_, rfl⟩
        obtain ⟨N1, hN1⟩ : ∃ N1, v + d % 32 * 2 ^ 15 = N1 := ⟨_, rfl⟩
        have hV1 : V1 = (N1 : Int) := by rw [← g3, hD2, hor1, hN1]
        have hb : N1 < 68719476736 := by have : d % 32 < 32 := Nat.mod_lt _ (by omega); have := hvl; omega
        subst hV1
        have HN1 := Lib.hid (show val xs start (3 + 1) = N1 by rw [val_snoc, HV.out, HK.out, HDD.out]; exact hN1)
        clear hor hor1 hD1 hD2 hvl hN1
        go_wp2_with fail
        go_quiet ((go_at_call 35; refine Calls.quiet_of_same (HD.out _ ⟨_, rfl⟩)))
        go_wp2_with fail
        go_roundw
        case rel =>
          refine ⟨3 + 1, ?_, by simp; have := HK.out; omega, by simp, by rw [HN1.out], by have := h2.out.le; have := HK.out; omega, by rw [show start + (3 + 1) = k + 1 by have := HK.out; omega]; exact h2⟩
          obtain ⟨m, rfl⟩ := hm.out
          exact Lib.hid ⟨m + nq, World.drewN_drewN _ _ _⟩
        case measure => simp only [intOf]; have := h2.out.le; omega
      · have hor1 := hor 20 hvl (by omega)
        obtain ⟨D2, g2⟩ : ∃ D2, wrap64 (D1 * 1048576) = D2 := ⟨_, rfl⟩
        have hD2 : D2 = ((d % 32 * 2 ^ 20 : Nat) : Int) := by rw [← g2, hD1]; unfold wrap64; have : d % 32 < 32 := Nat.mod_lt _ (by omega); omega
        obtain ⟨V1, g3⟩ : ∃ V1, bits .or .i64 (v : Int) D2 = V1 := ⟨_, rfl⟩
        obtain ⟨N1, hN1⟩ : ∃ N1, v + d % 32 * 2 ^ 20 = N1 := ⟨_, rfl⟩
        have hV1 : V1 = (N1 : Int) := by rw [← g3, hD2, hor1, hN1]
        have hb : N1 < 68719476736 := by have : d % 32 < 32 := Nat.mod_lt _ (by omega); have := hvl; omega
        subst hV1
        have HN1 := Lib.hid (show val xs start (4 + 1) = N1 by rw [val_snoc, HV.out, HK.out, HDD.out]; exact hN1)
        clear hor hor1 hD1 hD2 hvl hN1
        go_wp2_with fail
        go_quiet ((go_at_call 35; refine Calls.quiet_of_same (HD.out _ ⟨_, rfl⟩)))
        go_wp2_with fail
        go_roundw
        case rel =>
          refine ⟨4 + 1, ?_, by simp; have := HK.out; omega, by simp, by rw [HN1.out], by have := h2.out.le; have := HK.out; omega, by rw [show start + (4 + 1) = k + 1 by have := HK.out; omega]; exact h2⟩
          obtain ⟨m, rfl⟩ := hm.out
          exact Lib.hid ⟨m + nq, World.drewN_drewN _ _ _⟩
        case measure => simp only [intOf]; have := h2.out.le; omega
      · have hor1 := hor 25 hvl (by omega)
        obtain ⟨D2, g2⟩ : ∃ D2, wrap64 (D1 * 33554432) = D2 := ⟨_, rfl⟩
        have hD2 : D2 = ((d % 32 * 2 ^ 25 : Nat) : Int) := by rw [← g2, hD1]; unfold wrap64; have : d % 32 < 32 := Nat.mod_lt _ (by omega); omega
        obtain ⟨V1, g3⟩ : ∃ V1, bits .or .i64 (v : Int) D2 = V1 := ⟨_, rfl⟩
        obtain ⟨N1, hN1⟩ : ∃ N1, v + d % 32 * 2 ^ 25 = N1 := ⟨_, rfl⟩
        have hV1 : V1 = (N1 : Int) := by rw [← g3, hD2, hor1, hN1]
        have hb : N1 < 68719476736 := by have : d % 32 < 32 := Nat.mod_lt _ (by omega); have := hvl; omega
        subst hV1
        have HN1 := Lib.hid (show val xs start (5 + 1) = N1 by rw [val_snoc, HV.out, HK.out, HDD.out]; exact hN1)
        clear hor hor1 hD1 hD2 hvl hN1
        go_wp2_with fail
        go_quiet ((go_at_call 35; refine Calls.quiet_of_same (HD.out _ ⟨_, rfl⟩)))
        go_wp2_with fail
        go_roundw
        case rel =>
          refine ⟨5 + 1, ?_, by simp; have := HK.out; omega, by simp, by rw [HN1.out], by have := h2.out.le; have := HK.out; omega, by rw [show start + (5 + 1) = k + 1 by have := HK.out; omega]; exact h2⟩
          obtain ⟨m, rfl⟩ := hm.out
          exact Lib.hid ⟨m + nq, World.drewN_drewN _ _ _⟩
        case measure => simp only [intOf]; have := h2.out.le; omega
      · have hor1 := hor 30 hvl (by omega)
        obtain ⟨D2, g2⟩ : ∃ D2, wrap64 (D1 * 1073741824) = D2 := ⟨_, rfl⟩
        have hD2 : D2 = ((d % 32 * 2 ^ 30 : Nat) : Int) := by rw [← g2, hD1]; unfold wrap64; have : d % 32 < 32 := Nat.mod_lt _ (by omega); omega
        obtain ⟨V1, g3⟩ : ∃ V1, bits .or .i64 (v : Int) D2 = V1 := ⟨_, rfl⟩
        obtain ⟨N1, hN1⟩ : ∃ N1, v + d % 32 * 2 ^ 30 = N1 := ⟨_, rfl⟩
        have hV1 : V1 = (N1 : Int) := by rw [← g3, hD2, hor1, hN1]
        have hb : N1 < 68719476736 := by have : d % 32 < 32 := Nat.mod_lt _ (by omega); have := hvl; omega
        subst hV1
        have HN1 := Lib.hid (show val xs start (6 + 1) = N1 by rw [val_snoc, HV.out, HK.out, HDD.out]; exact hN1)
        clear hor hor1 hD1 hD2 hvl hN1
        go_wp2_with fail
        go_quiet ((go_at_call 35; refine Calls.quiet_of_same (HD.out _ ⟨_, rfl⟩)))
        go_wp2_with fail
        go_roundw
        case rel =>
          refine ⟨6 + 1, ?_, by simp; have := HK.out; omega, by simp, by rw [HN1.out], by have := h2.out.le; have := HK.out; omega, by rw [show start + (6 + 1) = k + 1 by have := HK.out; omega]; exact h2⟩
          obtain ⟨m, rfl⟩ := hm.out
          exact Lib.hid ⟨m + nq, World.drewN_drewN _ _ _⟩
        case measure => simp only [intOf]; have := h2.out.le; omega
end Go.Proofs.YtbigamkmkmfdfaaDoor
