/-
  SourceMapPieces.Finalize with one shift joins the three pieces.
-/
import Derived.Test.YtbigamkmkmfdfaaDoorK1
import Derived.Laws.AppendOwnNone
namespace Go.Proofs.YtbigamkmkmfdfaaDoor
open Go.ChangeShapes Go.WideShapes Go.ChangeAt Go.RowKit
set_option linter.unusedVariables false
theorem bytes_src {w : World} {p : Option Addr} {n c : Nat} {xs : List Int} (h : Bytes w (.slice p n c) xs) : xs.length = n ∧ (p = none → n = 0) ∧ ∀ ad, p = some ad → ∀ j u, (cellsB xs)[j]? = some u → w.cell? (ad.add j) = some u := by
  obtain ⟨q, d, e, hc, hi⟩ := h
  obtain ⟨rfl, rfl, rfl⟩ : q = p ∧ xs.length = n ∧ d = c := by cases e; exact ⟨rfl, rfl, rfl⟩
  refine ⟨rfl, fun hp => ?_, fun ad ha j u hu => ?_⟩
  · by_cases h0 : 0 < xs.length
    · obtain ⟨a, ha, _⟩ := hi 0 h0
      rw [hp] at ha; cases ha
    · omega
  · obtain ⟨hj, rfl⟩ := cellsB_get xs j u hu
    obtain ⟨a, ha', hcell⟩ := hi j hj
    rw [ha] at ha'
    cases ha'
    exact hcell
theorem Bytes.grown {w w' : World} {row : Option Nat} {v : Value} {xs : List Int} (h : Bytes w v xs) (hg : w.grownBy w' row) (hr : ∀ p a n c, v = .slice (some a) n c → p = a.block → 0 < xs.length → row ≠ some p) : Bytes w' v xs := by
  obtain ⟨p, c, rfl, hc, hi⟩ := h
  refine ⟨p, c, rfl, hc, fun i hl => ?_⟩
  obtain ⟨a, rfl, hcell⟩ := hi i hl
  have hb : (a.add i).block = a.block := by unfold Addr.add; split <;> rfl
  refine ⟨a, rfl, hg.cell hcell ?_⟩
  rw [hb]
  exact fun e => hr a.block a _ _ rfl rfl (by omega) e.symm
theorem Bytes.grown' {w w' wb : World} {v : Value} {xs : List Int} (h : Bytes w v xs) (hw : Bytes wb v xs) (hg : w.grownBy w' (some wb.heap.size)) : Bytes w' v xs := by
  refine h.grown hg ?_
  rintro p a n c rfl rfl hl e
  obtain ⟨q, d, e', _, hi⟩ := hw
  obtain ⟨b, hb, hc⟩ := hi 0 hl
  cases e'
  cases hb
  have := block_lt_of_cell hc
  have hb : (a.add 0).block = a.block := by unfold Addr.add; split <;> rfl
  rw [hb] at this
  injection e with e
  omega
theorem Bytes.empty {w w' : World} {v : Value} {xs : List Int} (h : Bytes w v xs) (h0 : xs.length = 0) : Bytes w' v xs := by
  obtain ⟨p, c, rfl, hc, hi⟩ := h
  exact ⟨p, c, rfl, hc, fun i hl => absurd hl (by omega)⟩
theorem own_bytes {w : World} {B : Nat} {v : Value} {n : Nat} {xs : List Int} (h : w.ownsRow B 5 1 v n (cellsB xs)) : Bytes w v xs := by
  have hl := h.1
  rw [cellsB_len] at hl
  obtain rfl : n = xs.length := by omega
  exact OwnB.bytes h
set_option maxRecDepth 100000 in
set_option maxHeartbeats 4000000 in
/-- something is to be joined: a new row -/
theorem finA (w : World) (p0 p1 p2 : Option Addr) (n0 n1 n2 : Nat) (x0 x1 x2 : List Int) (q : Addr) (h0 : Bytes w (.slice p0 n0 n0) x0) (h1 : Bytes w (.slice p1 n1 n1) x1) (h2 : Bytes w (.slice p2 n2 n2) x2) (hs : n0 + n1 + n2 ≤ 1048576) (hpos : 0 < n1 + n2) :
    Calls Tryd.prog 12 #[.agg #[.slice p0 n0 n0, .slice p1 n1 n1, .slice p2 n2 n2], .slice (some q) 1 1] w fun e w' => ∃ v, e = .returned v ∧ Bytes w' v (x0 ++ x1 ++ x2) ∧ Below w.heap.size w w' := by
  obtain ⟨i0, hin, hz0, hz1, hz2⟩ := info_parts info5
  obtain ⟨wb, hwb⟩ : ∃ wb, w.alloc (.cells #[.slice p0 n0 n0, .slice p1 n1 n1, .slice p2 n2 n2] 26) = wb := ⟨_, rfl⟩
  have hbb : Below w.heap.size w wb := by rw [← hwb]; exact (Below.refl _ _).alloc (Nat.le_refl _) _
  have hcw : ∀ i, wb.cell? ⟨w.heap.size, i, none⟩ = (#[.slice p0 n0 n0, .slice p1 n1 n1, .slice p2 n2 n2] : Array Value)[i]? := fun i => by
    have h : wb.heap[w.heap.size]? = some (.cells #[.slice p0 n0 n0, .slice p1 n1 n1, .slice p2 n2 n2] 26) := by
      rw [← hwb]; show (w.heap.push _)[w.heap.size]? = _; simp
    simp only [World.cell?, h]; rfl
  have e1 : wb.cell? ⟨w.heap.size, 1, none⟩ = some (.slice p1 n1 n1) := hcw 1
  have e2 : wb.cell? ⟨w.heap.size, 2, none⟩ = some (.slice p2 n2 n2) := hcw 2
  have hlt : w.heap.size < wb.heap.size := by rw [← hwb]; simp
  have l0 := (bytes_src h0).1; have l1 := (bytes_src h1).1; have l2 := (bytes_src h2).1
  have HE1 := Lib.hid e1; have HE2 := Lib.hid e2; have HLT := Lib.hid hlt; have HBB := Lib.hid hbb
  have H0 := Lib.hid (h0.keep hbb); have H1 := Lib.hid (h1.keep hbb); have H2 := Lib.hid (h2.keep hbb)
  have HL0 := Lib.hid l0; have HL1 := Lib.hid l1; have HL2 := Lib.hid l2
  have HW := Lib.hid hwb
  clear hwb hbb hcw e1 e2 hlt l0 l1 l2 h0 h1 h2
  go_enter Tryd.func12, Tryd.ntmps12
  go_wp2_with (first
    | (at_make; rw [HW.out]; refine wpList_make_own _ rfl _ _ 22 rfl w.heap.size 5 i0 (.int .u8 0) 1 Tryd.underlying22 hin hz0 hz1 _ _ _ (n0 + n1 + n2) rfl rfl (by omega) (by rw [hz2]; omega) (by unfold maxLen; omega) (Nat.le_of_lt HLT.out) ?_; intro w1 hown1 hg1
       have hd0 : Hid (Bytes w1 (.slice p0 n0 n0) x0) := Lib.hid (H0.out.grown hg1 (fun _ _ _ _ _ _ _ => by simp))
       have hd1 : Hid (Bytes w1 (.slice p1 n1 n1) x1) := Lib.hid (H1.out.grown hg1 (fun _ _ _ _ _ _ _ => by simp))
       have hd2 : Hid (Bytes w1 (.slice p2 n2 n2) x2) := Lib.hid (H2.out.grown hg1 (fun _ _ _ _ _ _ _ => by simp))
       have f1 : w1.cell? ⟨w.heap.size, 1, none⟩ = some (.slice p1 n1 n1) := hg1.cell HE1.out (by simp)
       have f2 : w1.cell? ⟨w.heap.size, 2, none⟩ = some (.slice p2 n2 n2) := hg1.cell HE2.out (by simp)
       have HO1 := Lib.hid hown1; have HG1 := Lib.hid hg1; clear hown1 hg1)
    | (at_builtin; refine wpList_append_fits_any _ rfl (.tmp 39) (.tmp 40) 22 rfl w.heap.size 5 i0 1 Tryd.underlying22 hin hz1 wb.heap.size 0 (n0 + n1 + n2) _ rfl HO1.out p0 n0 n0 (cellsB x0) rfl (by rw [cellsB_len, HL0.out]; omega) (fun h => by have := (bytes_src hd0.out).2.1 h; exact ⟨this, this⟩) (bytes_src hd0.out).2.2 (cellsB_one x0) (by omega) ?_; intro w2 hown2 hg2
       have hk1 : Hid (Bytes w2 (.slice p1 n1 n1) x1) := Lib.hid (hd1.out.grown' H1.out hg2)
       have hk2 : Hid (Bytes w2 (.slice p2 n2 n2) x2) := Lib.hid (hd2.out.grown' H2.out hg2)
       have g1 : w2.cell? ⟨w.heap.size, 1, none⟩ = some (.slice p1 n1 n1) := hg2.cell f1 (fun e => by injection e with e; have := HLT.out; simp at e; omega)
       have g2 : w2.cell? ⟨w.heap.size, 2, none⟩ = some (.slice p2 n2 n2) := hg2.cell f2 (fun e => by injection e with e; have := HLT.out; simp at e; omega)
       rw [Nat.zero_add] at hown2; have HO2 := Lib.hid hown2; have HG2 := Lib.hid hg2; clear hown2 hg2 f1 f2 HO1 hd0 hd1 hd2)
    | (at_builtin; refine wpList_append_fits_any _ rfl (.tmp 42) (.tmp 44) 22 rfl w.heap.size 5 i0 1 Tryd.underlying22 hin hz1 wb.heap.size n0 (n0 + n1 + n2) _ rfl HO2.out p1 n1 n1 (cellsB x1) rfl (by rw [cellsB_len, HL1.out]; omega) (fun h => by have := (bytes_src hk1.out).2.1 h; exact ⟨this, this⟩) (bytes_src hk1.out).2.2 (cellsB_one x1) (by omega) ?_; intro w3 hown3 hg3
       have hm2 : Hid (Bytes w3 (.slice p2 n2 n2) x2) := Lib.hid (hk2.out.grown' H2.out hg3)
       have m2 : w3.cell? ⟨w.heap.size, 2, none⟩ = some (.slice p2 n2 n2) := hg3.cell g2 (fun e => by injection e with e; have := HLT.out; simp at e; omega)
       have HO3 := Lib.hid hown3; have HG3 := Lib.hid hg3; clear hown3 hg3 g1 g2 HO2 hk1 hk2)
    | (at_builtin; refine wpList_append_fits_any _ rfl (.tmp 46) (.tmp 48) 22 rfl w.heap.size 5 i0 1 Tryd.underlying22 hin hz1 wb.heap.size (n0 + n1) (n0 + n1 + n2) _ rfl HO3.out p2 n2 n2 (cellsB x2) rfl (by rw [cellsB_len, HL2.out]; omega) (fun h => by have := (bytes_src hm2.out).2.1 h; exact ⟨this, this⟩) (bytes_src hm2.out).2.2 (cellsB_one x2) (by omega) ?_; intro w4 hown4 hg4
       have HO4 := Lib.hid hown4; have HG4 := Lib.hid hg4; clear hown4 hg4 m2 HO3 hm2))
  go_ret
  have hle := Nat.le_of_lt HLT.out
  have s1 := HG1.out.size; have s2 := HG2.out.size; have s3 := HG3.out.size
  have hb : Below w.heap.size w w4 := (((HBB.out.trans (below_grown HG1.out w.heap.size hle (by simp))).trans (below_grown HG2.out w.heap.size (by omega) (by intro k hk; injection hk; omega))).trans (below_grown HG3.out w.heap.size (by omega) (by intro k hk; injection hk; omega))).trans (below_grown HG4.out w.heap.size (by omega) (by intro k hk; injection hk; omega))
  refine ⟨_, rfl, ?_, hb⟩
  have e : cellsB (x0 ++ x1 ++ x2) = [] ++ cellsB x0 ++ cellsB x1 ++ cellsB x2 := by simp [cellsB]
  have ho := HO4.out
  exact own_bytes (by rw [e]; exact ho)
set_option maxRecDepth 100000 in
set_option maxHeartbeats 4000000 in
/-- nothing is to be joined to the first piece: it comes back -/
theorem finB (w : World) (B : Nat) (p0 p1 p2 : Option Addr) (n0 : Nat) (x0 : List Int) (q : Addr) (hB : B ≤ w.heap.size) (h0 : OwnB w B (.slice p0 n0 n0) x0) (hs : n0 ≤ 1048576) :
    Calls Tryd.prog 12 #[.agg #[.slice p0 n0 n0, .slice p1 0 0, .slice p2 0 0], .slice (some q) 1 1] w fun e w' => e = .returned (.slice p0 n0 n0) ∧ OwnB w' B (.slice p0 n0 n0) x0 ∧ Below B w w' := by
  obtain ⟨i0, hin, hz0, hz1, hz2⟩ := info_parts info5
  obtain ⟨wb, hwb⟩ : ∃ wb, w.alloc (.cells #[.slice p0 n0 n0, .slice p1 0 0, .slice p2 0 0] 26) = wb := ⟨_, rfl⟩
  have hbb : Below w.heap.size w wb := by rw [← hwb]; exact (Below.refl _ _).alloc (Nat.le_refl _) _
  have hcw : ∀ i, wb.cell? ⟨w.heap.size, i, none⟩ = (#[.slice p0 n0 n0, .slice p1 0 0, .slice p2 0 0] : Array Value)[i]? := fun i => by
    have h : wb.heap[w.heap.size]? = some (.cells #[.slice p0 n0 n0, .slice p1 0 0, .slice p2 0 0] 26) := by
      rw [← hwb]; show (w.heap.push _)[w.heap.size]? = _; simp
    simp only [World.cell?, h]; rfl
  have e2 : wb.cell? ⟨w.heap.size, 2, none⟩ = some (.slice p2 0 0) := hcw 2
  have hlt : w.heap.size < wb.heap.size := by rw [← hwb]; simp
  have h0b := h0.keep hbb
  have hB0 : Below B w wb := hbb.mono hB
  rcases h0 with ⟨hl, ⟨hv, hn⟩ | ⟨g, cap, cur, hv, hBg, hg, hr⟩⟩
  · obtain ⟨rfl, rfl⟩ : p0 = none ∧ n0 = 0 := by cases hv; exact ⟨rfl, rfl⟩
    have hx0 : x0 = [] := List.eq_nil_of_length_eq_zero hn
    subst hx0
    have HW := Lib.hid hwb; have HB := Lib.hid hB0; have HLT := Lib.hid hlt; have HE2 := Lib.hid e2
    clear hwb hbb hcw e2 hlt h0b hB0 hv hn hl
    cases p1 with
    | none =>
      cases p2 with
      | none =>
        go_enter Tryd.func12, Tryd.ntmps12
        go_wp2_with (first
          | (at_builtin; rw [HW.out]; refine wpList_append_own_none rfl (.tmp 42) (.tmp 44) 22 rfl B 5 i0 1 Tryd.underlying22 hin (.slice none 0 0) 0 [] rfl (World.ownsRow_nil _ _ _ _) rfl ?_; have e2 := HE2.out)
          | (at_builtin; refine wpList_append_own_none rfl (.tmp 46) (.tmp 48) 22 rfl B 5 i0 1 Tryd.underlying22 hin (.slice none 0 0) 0 [] rfl (World.ownsRow_nil _ _ _ _) rfl ?_))
        go_ret
        exact ⟨rfl, World.ownsRow_nil _ _ _ _, HB.out⟩
      | some a2 =>
        go_enter Tryd.func12, Tryd.ntmps12
        go_wp2_with (first
          | (at_builtin; rw [HW.out]; refine wpList_append_own_none rfl (.tmp 42) (.tmp 44) 22 rfl B 5 i0 1 Tryd.underlying22 hin (.slice none 0 0) 0 [] rfl (World.ownsRow_nil _ _ _ _) rfl ?_; have e2 := HE2.out)
          | (at_builtin; refine wpList_append_own _ rfl (.tmp 46) (.tmp 48) 22 rfl B 5 i0 (.int .u8 0) 1 1 Tryd.underlying22 hin hz0 hz1 hz2 rfl (by decide) (.slice none 0 0) 0 [] rfl (World.ownsRow_nil _ _ _ _) a2 0 0 [] rfl rfl (by simp) (by simp) (by unfold maxLen; omega) (by omega) (by have := HLT.out; omega) ?_; intro v' w2 _ hg2 hnil; obtain rfl := hnil.2 ⟨rfl, rfl⟩; have HG := Lib.hid hg2; clear hg2 hnil))
        go_ret
        exact ⟨rfl, World.ownsRow_nil _ _ _ _, HB.out.trans (below_grown HG.out B (by have := HLT.out; omega) (by intro k hk; cases hk))⟩
    | some a1 =>
      cases p2 with
      | none =>
        go_enter Tryd.func12, Tryd.ntmps12
        go_wp2_with (first
          | (at_builtin; rw [HW.out]; refine wpList_append_own _ rfl (.tmp 42) (.tmp 44) 22 rfl B 5 i0 (.int .u8 0) 1 1 Tryd.underlying22 hin hz0 hz1 hz2 rfl (by decide) (.slice none 0 0) 0 [] rfl (World.ownsRow_nil _ _ _ _) a1 0 0 [] rfl rfl (by simp) (by simp) (by unfold maxLen; omega) (by omega) (by have := HLT.out; omega) ?_; intro v' w2 _ hg2 hnil; obtain rfl := hnil.2 ⟨rfl, rfl⟩; have e2 : w2.cell? ⟨w.heap.size, 2, none⟩ = some (.slice none 0 0) := hg2.cell HE2.out (by intro e; cases e); have HG := Lib.hid hg2; clear hg2 hnil)
          | (at_builtin; refine wpList_append_own_none rfl (.tmp 46) (.tmp 48) 22 rfl B 5 i0 1 Tryd.underlying22 hin (.slice none 0 0) 0 [] rfl (World.ownsRow_nil _ _ _ _) rfl ?_))
        go_ret
        exact ⟨rfl, World.ownsRow_nil _ _ _ _, HB.out.trans (below_grown HG.out B (by have := HLT.out; omega) (by intro k hk; cases hk))⟩
      | some a2 =>
        go_enter Tryd.func12, Tryd.ntmps12
        go_wp2_with (first
          | (at_builtin; rw [HW.out]; refine wpList_append_own _ rfl (.tmp 42) (.tmp 44) 22 rfl B 5 i0 (.int .u8 0) 1 1 Tryd.underlying22 hin hz0 hz1 hz2 rfl (by decide) (.slice none 0 0) 0 [] rfl (World.ownsRow_nil _ _ _ _) a1 0 0 [] rfl rfl (by simp) (by simp) (by unfold maxLen; omega) (by omega) (by have := HLT.out; omega) ?_; intro v' w2 _ hg2 hnil; obtain rfl := hnil.2 ⟨rfl, rfl⟩; have e2 : w2.cell? ⟨w.heap.size, 2, none⟩ = some (.slice (some a2) 0 0) := hg2.cell HE2.out (by intro e; cases e); have HG := Lib.hid hg2; clear hg2 hnil)
          | (at_builtin; refine wpList_append_own _ rfl (.tmp 46) (.tmp 48) 22 rfl B 5 i0 (.int .u8 0) 1 1 Tryd.underlying22 hin hz0 hz1 hz2 rfl (by decide) (.slice none 0 0) 0 [] rfl (World.ownsRow_nil _ _ _ _) a2 0 0 [] rfl rfl (by simp) (by simp) (by unfold maxLen; omega) (by omega) (by have := HLT.out; have := HG.out.size; omega) ?_; intro v' w3 _ hg3 hnil; obtain rfl := hnil.2 ⟨rfl, rfl⟩; have HG3 := Lib.hid hg3; clear hg3 hnil))
        go_ret
        exact ⟨rfl, World.ownsRow_nil _ _ _ _, (HB.out.trans (below_grown HG.out B (by have := HLT.out; omega) (by intro k hk; cases hk))).trans (below_grown HG3.out B (by have := HLT.out; have := HG.out.size; omega) (by intro k hk; cases hk))⟩
  · obtain ⟨rfl, rfl⟩ : p0 = some ⟨g, 0, none⟩ ∧ n0 = x0.length := by cases hv; exact ⟨rfl, rfl⟩
    have hgl : g < w.heap.size := (Array.getElem?_eq_some_iff.1 hg).1
    have HW := Lib.hid hwb; have HB := Lib.hid hB0; have HLT := Lib.hid hlt; have HE2 := Lib.hid e2; have HO := Lib.hid h0b.out
    have HGL := Lib.hid hgl; have HBG := Lib.hid hBg
    clear hwb hbb hcw e2 hlt h0b hB0 hv hl hr hg hgl hBg
    go_enter Tryd.func12, Tryd.ntmps12
    go_wp2_with (first
      | (at_builtin; rw [HW.out]; refine wpList_append_fits_any _ rfl (.tmp 42) (.tmp 44) 22 rfl B 5 i0 1 Tryd.underlying22 hin hz1 g x0.length x0.length (cellsB x0) rfl HO.out p1 0 0 [] rfl rfl (fun _ => ⟨rfl, rfl⟩) (by simp) (by simp) (by omega) ?_; intro w2 hown2 hg2
         have e2 : w2.cell? ⟨w.heap.size, 2, none⟩ = some (.slice p2 0 0) := hg2.cell HE2.out (fun e => by injection e with e; have := HGL.out; simp at e; omega)
         rw [Nat.add_zero, List.append_nil] at hown2; have HO2 := Lib.hid hown2; have HG2 := Lib.hid hg2; clear hown2 hg2)
      | (at_builtin; refine wpList_append_fits_any _ rfl (.tmp 46) (.tmp 48) 22 rfl B 5 i0 1 Tryd.underlying22 hin hz1 g x0.length x0.length (cellsB x0) rfl HO2.out p2 0 0 [] rfl rfl (fun _ => ⟨rfl, rfl⟩) (by simp) (by simp) (by omega) ?_; intro w3 hown3 hg3
         rw [Nat.add_zero, List.append_nil] at hown3; have HO3 := Lib.hid hown3; have HG3 := Lib.hid hg3; clear hown3 hg3))
    go_ret
    exact ⟨rfl, HO3.out, (HB.out.trans (below_grown HG2.out B (by have := HLT.out; omega) (by intro k hk; injection hk; have := HBG.out; omega))).trans (below_grown HG3.out B (by have := HLT.out; have := HG2.out.size; omega) (by intro k hk; injection hk; have := HBG.out; omega))⟩
end Go.Proofs.YtbigamkmkmfdfaaDoor
