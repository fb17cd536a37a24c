/-
  consumeString.
-/
import Derived.Test.YtocciemgdikmjaaDoorS10
namespace Go.Proofs.YtocciemgdikmjaaDoor
open Go.ChangeShapes Go.WideShapes Go.ChangeAt Go.RowKit
set_option linter.unusedVariables false
theorem en58 (st ln : Int) (h0 : 0 ≤ st) (h1 : 0 ≤ ln) (h2 : st + ln ≤ 2147483647) (w : World) : Calls Tryd.prog 58 #[.agg #[.int .i32 st, .int .i32 ln]] w fun e w' => e = .returned (.int .i32 (st + ln)) ∧ Below w.heap.size w w' := by
  go_enter Tryd.func58, Tryd.ntmps58
  go_wp2_with fail
  go_ret
  exact ⟨rfl, (Below.refl w.heap.size w).alloc (Nat.le_refl _) _⟩
section
variable {w0 w w' : World} {g K X E M : Nat} {s : ByteArray} {p st : Nat}
theorem stepped_below2 (hb : Below w0.heap.size w0 w) (hs : Stepped w w' g) (lo : w0.heap.size ≤ g) : Below w0.heap.size w0 w' :=
  hb.trans ⟨hs.by_.os, hs.by_.tape, hs.by_.output, hs.by_.size, fun k hk => hs.by_.block k (Nat.lt_of_lt_of_le hk hb.size) (by intro e; injection e; omega)⟩
theorem TK.stepped {off ln ls le : Int} {a b : Bool} (h : TK w g s off ln ls le a b) (hs : Stepped w w' g) (hf : ∀ i, w'.frozen? ⟨g, i, none⟩ = false) : TK w' g s off ln ls le a b := by
  have q : ∀ i, i < 32 → w'.cell? ⟨g, i, none⟩ = w.cell? ⟨g, i, none⟩ := fun i hi => hs.cells i (by omega) (by omega) (by omega) (by omega)
  exact ⟨Nat.lt_of_lt_of_le h.lt hs.by_.size, (q 22 (by omega)).trans h.c22, (q 23 (by omega)).trans h.c23, (q 24 (by omega)).trans h.c24, (q 25 (by omega)).trans h.c25, (q 26 (by omega)).trans h.c26, (q 27 (by omega)).trans h.c27, (q 28 (by omega)).trans h.c28, (q 29 (by omega)).trans h.c29, (q 30 (by omega)).trans h.c30, (q 31 (by omega)).trans h.c31, hf⟩
theorem LC.of (h : LC w g K X E M) (q : ∀ i, i < 7 → w'.cell? ⟨g, i, none⟩ = w.cell? ⟨g, i, none⟩) : LC w' g K X E M := by
  obtain ⟨a, b, c, h2, h3, h4⟩ := h.oth
  exact ⟨(q 1 (by omega)).trans h.c1, ⟨a, b, c, (q 2 (by omega)).trans h2, (q 3 (by omega)).trans h3, (q 4 (by omega)).trans h4⟩, (q 5 (by omega)).trans h.c5, (q 6 (by omega)).trans h.c6⟩
/-- the lexer at place p, with its tracker and its log, both still as they were made -/
structure Ls (w0 w : World) (g K X E M : Nat) (s : ByteArray) (p st : Nat) : Prop where
  an : An w g s p st
  tk : TK w g s 0 0 0 0 true false
  lg : LG w g K X E M
  lc : LC w g K X E M
  be : Below w0.heap.size w0 w
  lo : w0.heap.size ≤ g
theorem Ls.lt (h : Ls w0 w g K X E M s p st) : g < w.heap.size := h.an.lt
theorem Ls.keep (h : Ls w0 w g K X E M s p st) (hb : Below w.heap.size w w') : Ls w0 w' g K X E M s p st :=
  ⟨h.an.keep hb, h.tk.keep hb, h.lg.keep hb, h.lc.of (fun i _ => hb.cell h.lt), h.be.trans (hb.mono h.be.size), h.lo⟩
theorem Ls.drew (h : Ls w0 w g K X E M s p st) : Ls w0 w.drew g K X E M s p st :=
  ⟨h.an.drew, h.tk.drew, h.lg.drew, ⟨h.lc.c1, h.lc.oth, h.lc.c5, h.lc.c6⟩, h.be.drew, h.lo⟩
theorem Ls.step (h : Ls w0 w g K X E M s p st) (hT : Lib.Utf8Tabs 0 1 w0) (hp : p ≤ s.size) (hs : s.size ≤ 1048576) (hst : st ≤ p) :
    Calls Tryd.prog 54 #[.pointer (some ⟨g, 0, none⟩)] w fun e w' => e = .returned (.tuple #[]) ∧ Ls w0 w' g K X E M s (p + wid s p) st := by
  refine (step_an w g s p st h.an (tabs_below hT h.be) hp hs hst).mono ?_
  rintro e w' ⟨rfl, ha, hss⟩
  exact ⟨rfl, ha, h.tk.stepped hss ha.fz, h.lg.grown hss.by_, h.lc.of (fun i hi => hss.cells i (by omega) (by omega) (by omega) (by omega)), stepped_below2 h.be hss h.lo, h.lo⟩
theorem Ls.c35 (h : Ls w0 w g K X E M s p st) : w.cell? ⟨g, 35, none⟩ = some (.int .i32 (cpOf s p)) := by
  obtain ⟨nl, _, hc⟩ := h.an
  exact hc.c35
theorem Ls.c36 (h : Ls w0 w g K X E M s p st) : w.cell? ⟨g, 36, none⟩ = some (.int .i32 st) := by
  obtain ⟨nl, _, hc⟩ := h.an
  exact hc.c36
theorem Ls.c37 (h : Ls w0 w g K X E M s p st) : w.cell? ⟨g, 37, none⟩ = some (.int .i32 ((p : Int) - (st : Int))) := by
  obtain ⟨nl, _, hc⟩ := h.an
  exact hc.c37
end
/-- what consumeString says -/
def CsSaid (w0 : World) (g : Nat) (s : ByteArray) (st : Nat) (e : Ending) (w' : World) : Prop :=
  ∃ (k : Int) (p : Nat), e = .returned (.int .u8 k) ∧ w'.cell? ⟨g, 36, none⟩ = some (.int .i32 st) ∧ w'.cell? ⟨g, 37, none⟩ = some (.int .i32 ((p : Int) - (st : Int))) ∧ Below w0.heap.size w0 w' ∧
    ((k = 36 ∧ st + 2 ≤ p ∧ p ≤ s.size ∧ byt s (p - 1) = byt s st) ∨ (k = 2 ∧ st < p ∧ p ≤ s.size ∧ (p = s.size ∨ byt s p = 10 ∨ byt s p = 13 ∨ byt s p = 12)))
theorem cs_bad {w0 w w' : World} {g K X E M : Nat} {s : ByteArray} {p st : Nat} {e : Ending} (he : e = .returned (.int .u8 2)) (h : Ls w0 w g K X E M s p st) (lX : w0.heap.size ≤ X) (lM : w0.heap.size ≤ M) (ht : Thr w w' g X M) (h1 : st < p) (h2 : p ≤ s.size) (hc : cpOf s p = -1 ∨ cpOf s p = 10 ∨ cpOf s p = 13 ∨ cpOf s p = 12) : CsSaid w0 g s st e w' := by
  refine ⟨2, p, he, (ht.cells 36 (by omega)).trans h.c36, (ht.cells 37 (by omega)).trans h.c37, h.be.trans ⟨ht.os, ht.tape, ht.output, ht.size, fun k hk => ?_⟩, Or.inr ⟨rfl, h1, h2, ?_⟩⟩
  · have := h.be.size; have := h.lo
    exact ht.block k (by omega) (by omega) (by omega) (by omega)
  · rcases hc with hc | hc | hc | hc
    · exact Or.inl (cp_m1 s p h2 hc)
    · exact Or.inr (Or.inl (cp_is s p h2 10 (by omega) hc).2)
    · exact Or.inr (Or.inr (Or.inl (cp_is s p h2 13 (by omega) hc).2))
    · exact Or.inr (Or.inr (Or.inr (cp_is s p h2 12 (by omega) hc).2))
theorem cs_str {w0 w : World} {g K X E M : Nat} {s : ByteArray} {p st : Nat} {e : Ending} (he : e = .returned (.int .u8 36)) (Q : Nat) (hQ : byt s st = Q) (hQ2 : Q < 128) (h1 : st < p) (h2 : p ≤ s.size) (hc : cpOf s p = (Q : Int)) (h : Ls w0 w g K X E M s (p + wid s p) st) : CsSaid w0 g s st e w := by
  obtain ⟨h3, h4⟩ := cp_is s p h2 Q hQ2 hc
  have h5 := wid_asc s p h3 (by omega)
  rw [h5] at h
  exact ⟨36, p + 1, he, h.c36, h.c37, h.be, Or.inl ⟨rfl, by omega, by omega, by rw [hQ]; exact h4⟩⟩
set_option maxRecDepth 100000 in
set_option maxHeartbeats 4000000 in
theorem cs57 (w0 w : World) (g K X E M : Nat) (s : ByteArray) (st : Nat) (hL : Ls w0 w g K X E M s st st) (lX : w0.heap.size ≤ X) (lM : w0.heap.size ≤ M) (hT : Lib.Utf8Tabs 0 1 w0) (hst : st < s.size) (hs : s.size ≤ 1048576) (hq : byt s st = 34 ∨ byt s st = 39) :
    Calls Tryd.prog 57 #[.pointer (some ⟨g, 0, none⟩)] w fun e w' => CsSaid w0 g s st e w' := by
  obtain ⟨Q, hQ⟩ : ∃ Q : Nat, byt s st = Q := ⟨_, rfl⟩
  have hQ1 : 34 ≤ Q := by omega
  have hQ2 : Q ≤ 39 := by omega
  have c35 := hL.c35
  rw [cp_asc s st hst (by omega), hQ] at c35
  have hS := hL.step hT (Nat.le_of_lt hst) hs (Nat.le_refl _)
  rw [wid_asc s st hst (by omega)] at hS
  have HS := Lib.hid hS; have HT := Lib.hid hT; have HX := Lib.hid (And.intro lX lM); have HQ := Lib.hid hQ
  clear hL hS lX lM hT hq hQ
  go_enter Tryd.func57, Tryd.ntmps57
  go_wp2_with fail
  refine HS.out.mono ?_
  rintro e w1 ⟨rfl, hl⟩
  have H1 := Lib.hid hl
  clear hl c35
  dsimp only
  go_wp2_with fail
  go_loopg [] (s.size - (st + 1)) (fun n wx => Hid (∃ p : Nat, n = s.size - p ∧ st < p ∧ p ≤ s.size ∧ Ls w0 wx g K X E M s p st))
  case atStart => exact Lib.hid ⟨st + 1, rfl, by omega, by omega, H1.out⟩
  case round =>
    obtain ⟨p, hn, hp1, hp2, hl⟩ := hrel.out
    have HN := Lib.hid hn; have HL := Lib.hid hl
    obtain ⟨c, hc⟩ : ∃ c : Int, cpOf s p = c := ⟨_, rfl⟩
    have c35 := hl.c35
    rw [hc] at c35
    have HC := Lib.hid hc
    have HSt := Lib.hid (hl.step HT.out hp2 hs (Nat.le_of_lt hp1))
    have hwl := wid_le s p hp2
    clear hn hl hrel H1 HS
    by_cases b92 : c = 92
    · skip
      obtain ⟨h3, h4⟩ := cp_is s p hp2 92 (by omega) (HC.out.trans b92)
      have HW := wid_asc s p h3 (by omega)
      subst b92
      rw [HW] at HSt
      clear h4 HW hwl
      go_wp2_with fail
      refine HSt.out.mono ?_
      rintro e w2 ⟨rfl, hl⟩
      have HL2 := Lib.hid hl
      have HSt2 := Lib.hid (hl.step HT.out (by omega) hs (by omega))
      have c35b := hl.c35
      have hwl := wid_le s (p + 1) (by omega)
      obtain ⟨c1, hc1⟩ : ∃ c : Int, cpOf s (p + 1) = c := ⟨_, rfl⟩
      rw [hc1] at c35b
      have HC1 := Lib.hid hc1
      clear hl hc1 c35
      dsimp only
      by_cases b13 : c1 = 13
      · obtain ⟨h5, h6⟩ := cp_is s (p + 1) (by omega) 13 (by omega) (HC1.out.trans b13)
        have HW := wid_asc s (p + 1) h5 (by omega)
        subst b13
        rw [HW] at HSt2
        clear h6 HW hwl
        go_wp2_with fail
        refine HSt2.out.mono ?_
        rintro e w3 ⟨rfl, hl⟩
        have HL3 := Lib.hid hl
        have HSt3 := Lib.hid (hl.step HT.out (by omega) hs (by omega))
        have c35c := hl.c35
        have hwl := wid_le s (p + 1 + 1) (by omega)
        obtain ⟨c2, hc2⟩ : ∃ c : Int, cpOf s (p + 1 + 1) = c := ⟨_, rfl⟩
        rw [hc2] at c35c
        have HC2 := Lib.hid hc2
        clear hl hc2 c35b
        dsimp only
        by_cases b10 : c2 = 10
        · subst b10
          go_wp2_with fail
          refine HSt3.out.mono ?_
          rintro e w4 ⟨rfl, hl⟩
          have HL4 := Lib.hid hl
          clear hl c35c
          dsimp only
          go_wp2_with fail
          go_roundg (s.size - (p + 1 + 1 + wid s (p + 1 + 1)))
          case measure => have := HN.out; omega
          case rel => exact Lib.hid ⟨_, rfl, by omega, by omega, HL4.out⟩
        · have q10 : (c2 == 10) = false := by rw [beq_eq_false_iff_ne]; exact b10
          clear b10
          go_wp2_with fail
          go_roundg (s.size - (p + 1 + 1))
          case measure => have := HN.out; omega
          case rel => exact Lib.hid ⟨_, rfl, by omega, by omega, HL3.out⟩
      · have q13 : (c1 == 13) = false := by rw [beq_eq_false_iff_ne]; exact b13
        clear b13
        go_wp2_with fail
        refine HSt2.out.mono ?_
        rintro e w3 ⟨rfl, hl⟩
        have HL3 := Lib.hid hl
        clear hl c35b
        dsimp only
        go_wp2_with fail
        go_roundg (s.size - (p + 1 + wid s (p + 1)))
        case measure => have := HN.out; omega
        case rel => exact Lib.hid ⟨_, rfl, by omega, by omega, HL3.out⟩
    · have q92 : (c == 92) = false := by rw [beq_eq_false_iff_ne]; exact b92
      clear b92
      by_cases hbad : c = -1 ∨ c = 10 ∨ c = 13 ∨ c = 12
      · skip
        have HBAD := Lib.hid hbad
        go_upto_if 32 with fail
        go_cut [32] (fun v wx => v = .bool true ∧ wr = wx)
        case first =>
          rcases hbad with rfl | rfl | rfl | rfl
          · go_wp2_with fail
            go_meet
            exact ⟨rfl, rfl⟩
          · go_wp2_with fail
            go_meet
            exact ⟨rfl, rfl⟩
          · go_wp2_with fail
            go_meet
            exact ⟨rfl, rfl⟩
          · go_wp2_with fail
            go_meet
            exact ⟨rfl, rfl⟩
        case rest =>
          obtain ⟨rfl, rfl⟩ := hcut
          clear hbad q92
          have c36 := HL.out.c36
          have c37 := HL.out.c37
          obtain ⟨ln, hln⟩ : ∃ ln : Nat, st + ln = p := ⟨p - st, by omega⟩
          have hln2 : (p : Int) - (st : Int) = (ln : Int) := by omega
          rw [hln2] at c37
          have hltd : g < wr.drew.heap.size := HL.out.lt
          have d1 := HL.out.lc.c1
          obtain ⟨a2, a3, a4, d2, d3, d4⟩ := HL.out.lc.oth
          have d5 := HL.out.lc.c5
          have d6 := HL.out.lc.c6
          have hpl : (st : Int) + (ln : Int) = (p : Nat) := by omega
          have hp1048 : p ≤ 1048576 := by omega
          have hp0 : 0 < p := by omega
          have hle : (st : Int) + (ln : Int) ≤ 2147483647 := by omega
          go_wp2_with fail
          go_region_with (first | (go_at_call 58; refine (en58 (st : Int) (ln : Int) (Int.natCast_nonneg _) (Int.natCast_nonneg _) hle _).mono ?_; rintro e w2 ⟨rfl, hb2⟩; rw [hpl]; have HL2 := Lib.hid (HL.out.drew.keep hb2); have g1 := HL2.out.lc.c1; obtain ⟨b2, b3, b4, g2, g3, g4⟩ := HL2.out.lc.oth; have g5 := HL2.out.lc.c5; have g6 := HL2.out.lc.c6; clear hb2) | (go_at_call 73; refine (ai73 _ g K X E M s _ p _ _ _ HL2.out.tk HL2.out.lg w0 HT.out HL2.out.be HL2.out.lo hp0 hp2 hs).mono ?_; rintro e w3 ⟨rfl, thr⟩; have HTH := Lib.hid thr; clear thr))
          all_goals
            go_wp2_with fail
            go_ret
            exact cs_bad rfl HL2.out HX.out.1 HX.out.2 HTH.out hp1 hp2 (by rw [HC.out]; exact HBAD.out)
      · have q1 : (c == -1) = false := by rw [beq_eq_false_iff_ne]; omega
        have q2 : (c == 10) = false := by rw [beq_eq_false_iff_ne]; omega
        have q3 : (c == 13) = false := by rw [beq_eq_false_iff_ne]; omega
        have q4 : (c == 12) = false := by rw [beq_eq_false_iff_ne]; omega
        have hne : p < s.size := by
          by_cases h : p < s.size
          · exact h
          · exfalso
            obtain rfl : p = s.size := by omega
            have := HC.out
            rw [cp_end] at this
            omega
        have hwp := wid_pos s p hne
        clear hbad
        by_cases bQ : c = (Q : Int)
        · skip
          have hcQ := HC.out.trans bQ
          have HCQ := Lib.hid hcQ
          subst bQ
          clear hcQ
          go_wp2_with fail
          refine HSt.out.mono ?_
          rintro e w2 ⟨rfl, hl⟩
          have HL2 := Lib.hid hl
          clear hl
          dsimp only
          go_wp2_with fail
          go_ret
          exact cs_str rfl Q HQ.out (by omega) hp1 hp2 HCQ.out HL2.out
        · skip
          have qQ : (c == (Q : Int)) = false := by rw [beq_eq_false_iff_ne]; exact bQ
          clear bQ
          go_wp2_with fail
          refine HSt.out.mono ?_
          rintro e w2 ⟨rfl, hl⟩
          have HL2 := Lib.hid hl
          clear hl
          dsimp only
          go_wp2_with fail
          go_roundg (s.size - (p + wid s p))
          case measure => have := HN.out; omega
          case rel => exact Lib.hid ⟨_, rfl, by omega, by omega, HL2.out⟩
end Go.Proofs.YtocciemgdikmjaaDoor
