/-
  zzCont, zzRune, zzRuneBoundary, zzEqBytes.
-/
import Derived.Test.YtlplikpjnocdfaaDoorC1
import Derived.Test.YtlplikpjnocdfaaDoorB2
import Derived.IntWalk
namespace Go.Proofs.YtlplikpjnocdfaaDoor
open Go.ChangeShapes Go.WideShapes Go.ChangeAt Go.RowKit
set_option linter.unusedVariables false

/-- the bytes lie in v -/
def At8 (w : World) (v : Value) (xs : List Int) : Prop := Bytes w v xs ∧ AllB xs
theorem At8.cell {w : World} {v : Value} {xs : List Int} (h : At8 w v xs) : ∃ p c, v = .slice p xs.length c ∧ xs.length ≤ c ∧ ∀ i, i < xs.length → ∃ a, p = some a ∧ w.cell? (a.add i) = some (.int .u8 (nb xs i : Nat)) := by
  obtain ⟨⟨p, c, e, hc, hi⟩, hb⟩ := h
  refine ⟨p, c, e, hc, fun i h => ?_⟩
  obtain ⟨a, ha, hq⟩ := hi i h
  refine ⟨a, ha, ?_⟩
  rw [hq]
  have := hb i
  unfold nb
  rw [Int.toNat_of_nonneg this.1]
theorem At8.keep {w w' : World} {v : Value} {xs : List Int} (h : At8 w v xs) (hb : Below w.heap.size w w') : At8 w' v xs := ⟨h.1.keep hb, h.2⟩
/-- a bool that says P -/
def Ans (e : Ending) (P : Prop) : Prop := ∃ b, e = .returned (.bool b) ∧ (b = true ↔ P)
theorem Ans.yes {P : Prop} (h : P) : Ans (.returned (.bool true)) P := ⟨true, rfl, fun _ => h, fun _ => rfl⟩
theorem Ans.no {P : Prop} (h : ¬ P) : Ans (.returned (.bool false)) P := ⟨false, rfl, fun h => (by cases h), fun h' => absurd h' h⟩
def Ct (xs : List Int) (j : Nat) : Prop := j < xs.length ∧ 128 ≤ nb xs j ∧ nb xs j ≤ 191
set_option maxRecDepth 100000 in
theorem ct35 (w : World) (v : Value) (xs : List Int) (j : Nat) (h : At8 w v xs) (hl : xs.length ≤ 1048576) (hj : j ≤ 1048580) :
    Calls Tryd.prog 35 #[v, .int .i64 j] w fun e w' => Ans e (Ct xs j) ∧ w' = w := by
  obtain ⟨p, c, rfl, hc, hi⟩ := h.cell
  obtain ⟨n, hn⟩ : ∃ n, xs.length = n := ⟨_, rfl⟩
  have HN := Lib.hid hn
  rw [hn] at hl hc ⊢
  by_cases hlt : j < n
  · obtain ⟨a, rfl, hq⟩ := hi j (by omega)
    obtain ⟨x, hx⟩ : ∃ x, nb xs j = x := ⟨_, rfl⟩
    have HX := Lib.hid hx
    rw [hx] at hq
    clear hi hx hn h
    by_cases h1 : 128 ≤ x
    · by_cases h2 : x ≤ 191
      · have d2 : decide ((x : Int) ≤ 191) = true := by simp; omega
        go_enter Tryd.func35, Tryd.ntmps35
        go_wp2_with fail
        go_ret
        exact ⟨Ans.yes ⟨by rw [HN.out]; exact hlt, by rw [HX.out]; exact h1, by rw [HX.out]; exact h2⟩, rfl⟩
      · have d2 : decide ((x : Int) ≤ 191) = false := by simp; omega
        go_enter Tryd.func35, Tryd.ntmps35
        go_wp2_with fail
        go_ret
        exact ⟨Ans.no (fun h => absurd h.2.2 (by rw [HX.out]; exact h2)), rfl⟩
    · go_enter Tryd.func35, Tryd.ntmps35
      go_wp2_with fail
      go_ret
      exact ⟨Ans.no (fun h => absurd h.2.1 (by rw [HX.out]; exact h1)), rfl⟩
  · clear hi hn h
    go_enter Tryd.func35, Tryd.ntmps35
    go_wp2_with fail
    go_ret
    exact ⟨Ans.no (fun h => absurd h.1 (by rw [HN.out]; exact hlt)), rfl⟩
/-- two calls of zzCont, told apart -/
inductive RC (j k : Nat) (x y : Bool) : Nat → Bool → Prop
  | a : RC j k x y j x
  | b : RC j k x y k y
/-- what zzRune answers: some rune, and the width -/
def RuneW (w : World) (xs : List Int) (i : Nat) (e : Ending) (w' : World) : Prop := (∃ r : Int, e = .returned (.tuple #[.int .i64 r, .int .i64 ((dz xs i).2 : Nat)])) ∧ ∃ n, w' = w.drewN n
theorem RuneW.of {w w' : World} {xs : List Int} {i : Nat} {r : Int} {W : Nat} (h : (dz xs i).2 = W) (hw : ∃ n, w' = w.drewN n) : RuneW w xs i (.returned (.tuple #[.int .i64 r, .int .i64 (W : Nat)])) w' := ⟨⟨r, by rw [h]⟩, hw⟩
set_option maxRecDepth 100000 in
set_option maxHeartbeats 8000000 in
theorem zr_a (w : World) (v : Value) (xs : List Int) (i : Nat) (h : At8 w v xs) (hl : xs.length ≤ 1048576) (hi : i < xs.length) (B0 : nb xs i < 128) :
    Calls Tryd.prog 32 #[v, .int .i64 i] w fun e w' => RuneW w xs i e w' := by
  obtain ⟨p, c, hv, hc, hq⟩ := h.cell
  obtain ⟨a, rfl, q0⟩ := hq i hi
  have HQ := Lib.hid (show ∀ j, j < xs.length → w.cell? (a.add j) = some (.int .u8 (nb xs j : Nat)) from fun j hj => by
    obtain ⟨a', ha, hc⟩ := hq j hj
    cases ha
    exact hc)
  obtain ⟨j1, hj1⟩ : ∃ j, i + 1 = j := ⟨_, rfl⟩
  obtain ⟨j2, hj2⟩ : ∃ j, i + 2 = j := ⟨_, rfl⟩
  obtain ⟨j3, hj3⟩ : ∃ j, i + 3 = j := ⟨_, rfl⟩
  have HJ := Lib.hid (And.intro hj1 (And.intro hj2 hj3))
  have HC1 := Lib.hid (ct35 w v xs j1 h hl (by omega)); have HC2 := Lib.hid (ct35 w v xs j2 h hl (by omega)); have HC3 := Lib.hid (ct35 w v xs j3 h hl (by omega))
  subst hv
  obtain ⟨n, hn⟩ : ∃ n, xs.length = n := ⟨_, rfl⟩
  have HDZ := Lib.hid (show dz xs i = zd (n - i) (nb xs i) (nb xs j1) (nb xs j2) (nb xs j3) by rw [← hn, ← hj1, ← hj2, ← hj3]; rfl)
  unfold Ct at HC1 HC2 HC3
  rw [hn] at HQ HC1 HC2 HC3 hc hl hi ⊢
  obtain ⟨b0, e0⟩ : ∃ x, nb xs i = x := ⟨_, rfl⟩
  obtain ⟨b1, e1⟩ : ∃ x, nb xs j1 = x := ⟨_, rfl⟩
  obtain ⟨b2, e2⟩ : ∃ x, nb xs j2 = x := ⟨_, rfl⟩
  obtain ⟨b3, e3⟩ : ∃ x, nb xs j3 = x := ⟨_, rfl⟩
  have HB := Lib.hid (show ∀ j, nb xs j < 256 from fun j => nb_lt h.2 j)
  have g0 := HB.out i; have g1 := HB.out j1; have g2 := HB.out j2; have g3 := HB.out j3
  have HE := Lib.hid (And.intro e1 (And.intro e2 e3))
  rw [e1] at HC1; rw [e2] at HC2; rw [e3] at HC3
  rw [e0, e1, e2, e3] at HDZ
  rw [e0] at q0
  rw [e0] at g0 B0; rw [e1] at g1; rw [e2] at g2; rw [e3] at g3
  have f1 : (i : Int) + 1 = (j1 : Int) := by omega
  have f2 : (i : Int) + 2 = (j2 : Int) := by omega
  have f3 : (i : Int) + 3 = (j3 : Int) := by omega
  have HI := Lib.hid (show IntKind.i64.wrap (j1 : Int) = (j1 : Int) ∧ IntKind.i64.wrap (j2 : Int) = (j2 : Int) ∧ IntKind.i64.wrap (j3 : Int) = (j3 : Int) from ⟨IntWalk.i64_in _ (by omega), IntWalk.i64_in _ (by omega), IntWalk.i64_in _ (by omega)⟩)
  have HB3 := Lib.hid (show j1 ≤ 1048580 ∧ j2 ≤ 1048580 ∧ j3 ≤ 1048580 by omega)
  clear hq h hn e0 e1 e2 e3 hj1 hj2 hj3 HB
  have HW := Lib.hid (show (dz xs i).2 = 1 by have hj := HJ.out; rw [HDZ.out]; unfold zd; rw [if_pos (by omega)])
  go_enter Tryd.func32, Tryd.ntmps32
  go_wp2_with fail
  go_ret2
  exact RuneW.of HW.out ⟨0, rfl⟩
set_option maxRecDepth 100000 in
set_option maxHeartbeats 8000000 in
theorem zr_i (w : World) (v : Value) (xs : List Int) (i : Nat) (h : At8 w v xs) (hl : xs.length ≤ 1048576) (hi : i < xs.length) (B0 : (128 ≤ nb xs i ∧ nb xs i < 194) ∨ 245 ≤ nb xs i) :
    Calls Tryd.prog 32 #[v, .int .i64 i] w fun e w' => RuneW w xs i e w' := by
  obtain ⟨p, c, hv, hc, hq⟩ := h.cell
  obtain ⟨a, rfl, q0⟩ := hq i hi
  have HQ := Lib.hid (show ∀ j, j < xs.length → w.cell? (a.add j) = some (.int .u8 (nb xs j : Nat)) from fun j hj => by
    obtain ⟨a', ha, hc⟩ := hq j hj
    cases ha
    exact hc)
  obtain ⟨j1, hj1⟩ : ∃ j, i + 1 = j := ⟨_, rfl⟩
  obtain ⟨j2, hj2⟩ : ∃ j, i + 2 = j := ⟨_, rfl⟩
  obtain ⟨j3, hj3⟩ : ∃ j, i + 3 = j := ⟨_, rfl⟩
  have HJ := Lib.hid (And.intro hj1 (And.intro hj2 hj3))
  have HC1 := Lib.hid (ct35 w v xs j1 h hl (by omega)); have HC2 := Lib.hid (ct35 w v xs j2 h hl (by omega)); have HC3 := Lib.hid (ct35 w v xs j3 h hl (by omega))
  subst hv
  obtain ⟨n, hn⟩ : ∃ n, xs.length = n := ⟨_, rfl⟩
  have HDZ := Lib.hid (show dz xs i = zd (n - i) (nb xs i) (nb xs j1) (nb xs j2) (nb xs j3) by rw [← hn, ← hj1, ← hj2, ← hj3]; rfl)
  unfold Ct at HC1 HC2 HC3
  rw [hn] at HQ HC1 HC2 HC3 hc hl hi ⊢
  obtain ⟨b0, e0⟩ : ∃ x, nb xs i = x := ⟨_, rfl⟩
  obtain ⟨b1, e1⟩ : ∃ x, nb xs j1 = x := ⟨_, rfl⟩
  obtain ⟨b2, e2⟩ : ∃ x, nb xs j2 = x := ⟨_, rfl⟩
  obtain ⟨b3, e3⟩ : ∃ x, nb xs j3 = x := ⟨_, rfl⟩
  have HB := Lib.hid (show ∀ j, nb xs j < 256 from fun j => nb_lt h.2 j)
  have g0 := HB.out i; have g1 := HB.out j1; have g2 := HB.out j2; have g3 := HB.out j3
  have HE := Lib.hid (And.intro e1 (And.intro e2 e3))
  rw [e1] at HC1; rw [e2] at HC2; rw [e3] at HC3
  rw [e0, e1, e2, e3] at HDZ
  rw [e0] at q0
  rw [e0] at g0 B0; rw [e1] at g1; rw [e2] at g2; rw [e3] at g3
  have f1 : (i : Int) + 1 = (j1 : Int) := by omega
  have f2 : (i : Int) + 2 = (j2 : Int) := by omega
  have f3 : (i : Int) + 3 = (j3 : Int) := by omega
  have HI := Lib.hid (show IntKind.i64.wrap (j1 : Int) = (j1 : Int) ∧ IntKind.i64.wrap (j2 : Int) = (j2 : Int) ∧ IntKind.i64.wrap (j3 : Int) = (j3 : Int) from ⟨IntWalk.i64_in _ (by omega), IntWalk.i64_in _ (by omega), IntWalk.i64_in _ (by omega)⟩)
  have HB3 := Lib.hid (show j1 ≤ 1048580 ∧ j2 ≤ 1048580 ∧ j3 ≤ 1048580 by omega)
  clear hq h hn e0 e1 e2 e3 hj1 hj2 hj3 HB
  rcases B0 with ⟨B1, B2⟩ | B1
  · have k1 : ¬ 194 ≤ b0 := by omega
    have k2 : ¬ b0 < 128 := by omega
    have HW := Lib.hid (show (dz xs i).2 = 1 by have hj := HJ.out; rw [HDZ.out]; unfold zd; rw [if_neg (by omega), if_neg (by omega), if_neg (by omega), if_neg (by omega)])
    go_enter Tryd.func32, Tryd.ntmps32
    go_wp2_with fail
    go_ret2
    exact RuneW.of HW.out ⟨0, rfl⟩
  · have k2 : ¬ b0 < 128 := by omega
    have HW := Lib.hid (show (dz xs i).2 = 1 by have hj := HJ.out; rw [HDZ.out]; unfold zd; rw [if_neg (by omega), if_neg (by omega), if_neg (by omega), if_neg (by omega)])
    go_enter Tryd.func32, Tryd.ntmps32
    go_wp2_with fail
    go_ret2
    exact RuneW.of HW.out ⟨0, rfl⟩
set_option maxRecDepth 100000 in
set_option maxHeartbeats 8000000 in
theorem zr_2 (w : World) (v : Value) (xs : List Int) (i : Nat) (h : At8 w v xs) (hl : xs.length ≤ 1048576) (hi : i < xs.length) (B0 : 194 ≤ nb xs i) (B1 : nb xs i ≤ 223) :
    Calls Tryd.prog 32 #[v, .int .i64 i] w fun e w' => RuneW w xs i e w' := by
  obtain ⟨p, c, hv, hc, hq⟩ := h.cell
  obtain ⟨a, rfl, q0⟩ := hq i hi
  have HQ := Lib.hid (show ∀ j, j < xs.length → w.cell? (a.add j) = some (.int .u8 (nb xs j : Nat)) from fun j hj => by
    obtain ⟨a', ha, hc⟩ := hq j hj
    cases ha
    exact hc)
  obtain ⟨j1, hj1⟩ : ∃ j, i + 1 = j := ⟨_, rfl⟩
  obtain ⟨j2, hj2⟩ : ∃ j, i + 2 = j := ⟨_, rfl⟩
  obtain ⟨j3, hj3⟩ : ∃ j, i + 3 = j := ⟨_, rfl⟩
  have HJ := Lib.hid (And.intro hj1 (And.intro hj2 hj3))
  have HC1 := Lib.hid (ct35 w v xs j1 h hl (by omega)); have HC2 := Lib.hid (ct35 w v xs j2 h hl (by omega)); have HC3 := Lib.hid (ct35 w v xs j3 h hl (by omega))
  subst hv
  obtain ⟨n, hn⟩ : ∃ n, xs.length = n := ⟨_, rfl⟩
  have HDZ := Lib.hid (show dz xs i = zd (n - i) (nb xs i) (nb xs j1) (nb xs j2) (nb xs j3) by rw [← hn, ← hj1, ← hj2, ← hj3]; rfl)
  unfold Ct at HC1 HC2 HC3
  rw [hn] at HQ HC1 HC2 HC3 hc hl hi ⊢
  obtain ⟨b0, e0⟩ : ∃ x, nb xs i = x := ⟨_, rfl⟩
  obtain ⟨b1, e1⟩ : ∃ x, nb xs j1 = x := ⟨_, rfl⟩
  obtain ⟨b2, e2⟩ : ∃ x, nb xs j2 = x := ⟨_, rfl⟩
  obtain ⟨b3, e3⟩ : ∃ x, nb xs j3 = x := ⟨_, rfl⟩
  have HB := Lib.hid (show ∀ j, nb xs j < 256 from fun j => nb_lt h.2 j)
  have g0 := HB.out i; have g1 := HB.out j1; have g2 := HB.out j2; have g3 := HB.out j3
  have HE := Lib.hid (And.intro e1 (And.intro e2 e3))
  rw [e1] at HC1; rw [e2] at HC2; rw [e3] at HC3
  rw [e0, e1, e2, e3] at HDZ
  rw [e0] at q0
  rw [e0] at g0 B0 B1; rw [e1] at g1; rw [e2] at g2; rw [e3] at g3
  have f1 : (i : Int) + 1 = (j1 : Int) := by omega
  have f2 : (i : Int) + 2 = (j2 : Int) := by omega
  have f3 : (i : Int) + 3 = (j3 : Int) := by omega
  have HI := Lib.hid (show IntKind.i64.wrap (j1 : Int) = (j1 : Int) ∧ IntKind.i64.wrap (j2 : Int) = (j2 : Int) ∧ IntKind.i64.wrap (j3 : Int) = (j3 : Int) from ⟨IntWalk.i64_in _ (by omega), IntWalk.i64_in _ (by omega), IntWalk.i64_in _ (by omega)⟩)
  have HB3 := Lib.hid (show j1 ≤ 1048580 ∧ j2 ≤ 1048580 ∧ j3 ≤ 1048580 by omega)
  clear hq h hn e0 e1 e2 e3 hj1 hj2 hj3 HB
  have k2 : ¬ b0 < 128 := by omega
  by_cases T1 : j1 < n ∧ 128 ≤ b1 ∧ b1 ≤ 191
  · have K1 := Lib.hid (show Calls Tryd.prog 35 #[.slice (some a) n c, .int .i64 (j1 : Nat)] w fun e w' => e = .returned (.bool true) ∧ w' = w from (HC1.out).mono fun e w' ⟨⟨b, he, hb⟩, hw⟩ => ⟨by rw [he]; have : b = true := (hb.2 T1); rw [this], hw⟩)
    have q1 := HQ.out j1 T1.1
    rw [HE.out.1] at q1
    have l1 := T1.1
    have HW := Lib.hid (show (dz xs i).2 = 2 by have hj := HJ.out; rw [HDZ.out]; unfold zd; rw [if_neg (by omega), if_pos (by omega), if_pos (by omega)])
    clear T1
    go_enter Tryd.func32, Tryd.ntmps32
    go_wp2_with (first | (go_at_call 35; refine (K1.out).mono ?_; rintro e w1 ⟨rfl, hw1⟩; have hw2 := hw1.symm; subst hw2))
    go_ret2
    exact RuneW.of HW.out ⟨0, rfl⟩
  · have K1 := Lib.hid (show Calls Tryd.prog 35 #[.slice (some a) n c, .int .i64 (j1 : Nat)] w fun e w' => e = .returned (.bool false) ∧ w' = w from (HC1.out).mono fun e w' ⟨⟨b, he, hb⟩, hw⟩ => ⟨by rw [he]; have : b = false := (by cases b with | false => rfl | true => exact absurd (hb.1 rfl) T1); rw [this], hw⟩)
    have HW := Lib.hid (show (dz xs i).2 = 1 by have hj := HJ.out; rw [HDZ.out]; unfold zd; rw [if_neg (by omega), if_pos (by omega), if_neg (by omega)])
    clear T1
    go_enter Tryd.func32, Tryd.ntmps32
    go_wp2_with (first | (go_at_call 35; refine (K1.out).mono ?_; rintro e w1 ⟨rfl, hw1⟩; have hw2 := hw1.symm; subst hw2))
    go_ret2
    exact RuneW.of HW.out ⟨0, rfl⟩
set_option maxRecDepth 100000 in
set_option maxHeartbeats 8000000 in
theorem zr_3A (w : World) (v : Value) (xs : List Int) (i : Nat) (h : At8 w v xs) (hl : xs.length ≤ 1048576) (hi : i < xs.length) (B0 : 224 ≤ nb xs i) (B1 : nb xs i ≤ 239) (B2 : nb xs i = 224) :
    Calls Tryd.prog 32 #[v, .int .i64 i] w fun e w' => RuneW w xs i e w' := by
  obtain ⟨p, c, hv, hc, hq⟩ := h.cell
  obtain ⟨a, rfl, q0⟩ := hq i hi
  have HQ := Lib.hid (show ∀ j, j < xs.length → w.cell? (a.add j) = some (.int .u8 (nb xs j : Nat)) from fun j hj => by
    obtain ⟨a', ha, hc⟩ := hq j hj
    cases ha
    exact hc)
  obtain ⟨j1, hj1⟩ : ∃ j, i + 1 = j := ⟨_, rfl⟩
  obtain ⟨j2, hj2⟩ : ∃ j, i + 2 = j := ⟨_, rfl⟩
  obtain ⟨j3, hj3⟩ : ∃ j, i + 3 = j := ⟨_, rfl⟩
  have HJ := Lib.hid (And.intro hj1 (And.intro hj2 hj3))
  have HC1 := Lib.hid (ct35 w v xs j1 h hl (by omega)); have HC2 := Lib.hid (ct35 w v xs j2 h hl (by omega)); have HC3 := Lib.hid (ct35 w v xs j3 h hl (by omega))
  subst hv
  obtain ⟨n, hn⟩ : ∃ n, xs.length = n := ⟨_, rfl⟩
  have HDZ := Lib.hid (show dz xs i = zd (n - i) (nb xs i) (nb xs j1) (nb xs j2) (nb xs j3) by rw [← hn, ← hj1, ← hj2, ← hj3]; rfl)
  unfold Ct at HC1 HC2 HC3
  rw [hn] at HQ HC1 HC2 HC3 hc hl hi ⊢
  obtain ⟨b0, e0⟩ : ∃ x, nb xs i = x := ⟨_, rfl⟩
  obtain ⟨b1, e1⟩ : ∃ x, nb xs j1 = x := ⟨_, rfl⟩
  obtain ⟨b2, e2⟩ : ∃ x, nb xs j2 = x := ⟨_, rfl⟩
  obtain ⟨b3, e3⟩ : ∃ x, nb xs j3 = x := ⟨_, rfl⟩
  have HB := Lib.hid (show ∀ j, nb xs j < 256 from fun j => nb_lt h.2 j)
  have g0 := HB.out i; have g1 := HB.out j1; have g2 := HB.out j2; have g3 := HB.out j3
  have HE := Lib.hid (And.intro e1 (And.intro e2 e3))
  rw [e1] at HC1; rw [e2] at HC2; rw [e3] at HC3
  rw [e0, e1, e2, e3] at HDZ
  rw [e0] at q0
  rw [e0] at g0 B0 B1 B2; rw [e1] at g1; rw [e2] at g2; rw [e3] at g3
  have f1 : (i : Int) + 1 = (j1 : Int) := by omega
  have f2 : (i : Int) + 2 = (j2 : Int) := by omega
  have f3 : (i : Int) + 3 = (j3 : Int) := by omega
  have HI := Lib.hid (show IntKind.i64.wrap (j1 : Int) = (j1 : Int) ∧ IntKind.i64.wrap (j2 : Int) = (j2 : Int) ∧ IntKind.i64.wrap (j3 : Int) = (j3 : Int) from ⟨IntWalk.i64_in _ (by omega), IntWalk.i64_in _ (by omega), IntWalk.i64_in _ (by omega)⟩)
  have HB3 := Lib.hid (show j1 ≤ 1048580 ∧ j2 ≤ 1048580 ∧ j3 ≤ 1048580 by omega)
  clear hq h hn e0 e1 e2 e3 hj1 hj2 hj3 HB
  have k2 : ¬ b0 < 128 := by omega
  have k3 : ¬ b0 ≤ 223 := by omega
  have t1 : ((b0 : Int) == 224) = true := by simp; omega
  have t2 : ((b0 : Int) == 237) = false := by simp; omega
  by_cases l1 : j1 < n
  · have q1 := HQ.out j1 l1
    rw [HE.out.1] at q1
    by_cases c1 : 160 ≤ b1
    · by_cases c2 : b1 ≤ 191
      · by_cases T2 : j2 < n ∧ 128 ≤ b2 ∧ b2 ≤ 191
        · have K2 := Lib.hid (show Calls Tryd.prog 35 #[.slice (some a) n c, .int .i64 (j2 : Nat)] w fun e w' => e = .returned (.bool true) ∧ w' = w from (HC2.out).mono fun e w' ⟨⟨b, he, hb⟩, hw⟩ => ⟨by rw [he]; have : b = true := (hb.2 T2); rw [this], hw⟩)
          have q2 := HQ.out j2 T2.1
          rw [HE.out.2.1] at q2
          have l2 := T2.1
          have HW := Lib.hid (show (dz xs i).2 = 3 by have hj := HJ.out; rw [HDZ.out]; unfold zd; rw [if_neg (by omega), if_neg (by omega), if_pos (by omega), if_pos (by refine ⟨by omega, ?_, ?_, by omega, by omega⟩ <;> (split <;> omega))])
          clear T2
          go_enter Tryd.func32, Tryd.ntmps32
          go_wp2_with (first | (go_at_call 35; refine (K2.out).mono ?_; rintro e w1 ⟨rfl, hw1⟩; have hw2 := hw1.symm; subst hw2))
          obtain ⟨i1, i2, i3⟩ := HI.out
          go_quiet (fail)
          clear i1 i2 i3
          go_wp2_with fail
          go_ret2
          exact RuneW.of HW.out ⟨_, rfl⟩
        · have K2 := Lib.hid (show Calls Tryd.prog 35 #[.slice (some a) n c, .int .i64 (j2 : Nat)] w fun e w' => e = .returned (.bool false) ∧ w' = w from (HC2.out).mono fun e w' ⟨⟨b, he, hb⟩, hw⟩ => ⟨by rw [he]; have : b = false := (by cases b with | false => rfl | true => exact absurd (hb.1 rfl) T2); rw [this], hw⟩)
          have HW := Lib.hid (show (dz xs i).2 = 1 by have hj := HJ.out; rw [HDZ.out]; unfold zd; rw [if_neg (by omega), if_neg (by omega), if_pos (by omega), if_neg (by rintro ⟨h1, h2, h3, h4, h5⟩; (split at h2) <;> (split at h3) <;> omega)])
          clear T2
          go_enter Tryd.func32, Tryd.ntmps32
          go_wp2_with (first | (go_at_call 35; refine (K2.out).mono ?_; rintro e w1 ⟨rfl, hw1⟩; have hw2 := hw1.symm; subst hw2))
          go_ret2
          exact RuneW.of HW.out ⟨0, rfl⟩
      · have HW := Lib.hid (show (dz xs i).2 = 1 by have hj := HJ.out; rw [HDZ.out]; unfold zd; rw [if_neg (by omega), if_neg (by omega), if_pos (by omega), if_neg (by rintro ⟨h1, h2, h3, h4, h5⟩; (split at h2) <;> (split at h3) <;> omega)])
        go_enter Tryd.func32, Tryd.ntmps32
        go_wp2_with fail
        go_ret2
        exact RuneW.of HW.out ⟨0, rfl⟩
    · have HW := Lib.hid (show (dz xs i).2 = 1 by have hj := HJ.out; rw [HDZ.out]; unfold zd; rw [if_neg (by omega), if_neg (by omega), if_pos (by omega), if_neg (by rintro ⟨h1, h2, h3, h4, h5⟩; (split at h2) <;> (split at h3) <;> omega)])
      go_enter Tryd.func32, Tryd.ntmps32
      go_wp2_with fail
      go_ret2
      exact RuneW.of HW.out ⟨0, rfl⟩
  · have HW := Lib.hid (show (dz xs i).2 = 1 by have hj := HJ.out; rw [HDZ.out]; unfold zd; rw [if_neg (by omega), if_neg (by omega), if_pos (by omega), if_neg (by rintro ⟨h1, h2, h3, h4, h5⟩; (split at h2) <;> (split at h3) <;> omega)])
    go_enter Tryd.func32, Tryd.ntmps32
    go_wp2_with fail
    go_ret2
    exact RuneW.of HW.out ⟨0, rfl⟩
set_option maxRecDepth 100000 in
set_option maxHeartbeats 8000000 in
theorem zr_3B (w : World) (v : Value) (xs : List Int) (i : Nat) (h : At8 w v xs) (hl : xs.length ≤ 1048576) (hi : i < xs.length) (B0 : 224 ≤ nb xs i) (B1 : nb xs i ≤ 239) (B2 : nb xs i = 237) :
    Calls Tryd.prog 32 #[v, .int .i64 i] w fun e w' => RuneW w xs i e w' := by
  obtain ⟨p, c, hv, hc, hq⟩ := h.cell
  obtain ⟨a, rfl, q0⟩ := hq i hi
  have HQ := Lib.hid (show ∀ j, j < xs.length → w.cell? (a.add j) = some (.int .u8 (nb xs j : Nat)) from fun j hj => by
    obtain ⟨a', ha, hc⟩ := hq j hj
    cases ha
    exact hc)
  obtain ⟨j1, hj1⟩ : ∃ j, i + 1 = j := ⟨_, rfl⟩
  obtain ⟨j2, hj2⟩ : ∃ j, i + 2 = j := ⟨_, rfl⟩
  obtain ⟨j3, hj3⟩ : ∃ j, i + 3 = j := ⟨_, rfl⟩
  have HJ := Lib.hid (And.intro hj1 (And.intro hj2 hj3))
  have HC1 := Lib.hid (ct35 w v xs j1 h hl (by omega)); have HC2 := Lib.hid (ct35 w v xs j2 h hl (by omega)); have HC3 := Lib.hid (ct35 w v xs j3 h hl (by omega))
  subst hv
  obtain ⟨n, hn⟩ : ∃ n, xs.length = n := ⟨_, rfl⟩
  have HDZ := Lib.hid (show dz xs i = zd (n - i) (nb xs i) (nb xs j1) (nb xs j2) (nb xs j3) by rw [← hn, ← hj1, ← hj2, ← hj3]; rfl)
  unfold Ct at HC1 HC2 HC3
  rw [hn] at HQ HC1 HC2 HC3 hc hl hi ⊢
  obtain ⟨b0, e0⟩ : ∃ x, nb xs i = x := ⟨_, rfl⟩
  obtain ⟨b1, e1⟩ : ∃ x, nb xs j1 = x := ⟨_, rfl⟩
  obtain ⟨b2, e2⟩ : ∃ x, nb xs j2 = x := ⟨_, rfl⟩
  obtain ⟨b3, e3⟩ : ∃ x, nb xs j3 = x := ⟨_, rfl⟩
  have HB := Lib.hid (show ∀ j, nb xs j < 256 from fun j => nb_lt h.2 j)
  have g0 := HB.out i; have g1 := HB.out j1; have g2 := HB.out j2; have g3 := HB.out j3
  have HE := Lib.hid (And.intro e1 (And.intro e2 e3))
  rw [e1] at HC1; rw [e2] at HC2; rw [e3] at HC3
  rw [e0, e1, e2, e3] at HDZ
  rw [e0] at q0
  rw [e0] at g0 B0 B1 B2; rw [e1] at g1; rw [e2] at g2; rw [e3] at g3
  have f1 : (i : Int) + 1 = (j1 : Int) := by omega
  have f2 : (i : Int) + 2 = (j2 : Int) := by omega
  have f3 : (i : Int) + 3 = (j3 : Int) := by omega
  have HI := Lib.hid (show IntKind.i64.wrap (j1 : Int) = (j1 : Int) ∧ IntKind.i64.wrap (j2 : Int) = (j2 : Int) ∧ IntKind.i64.wrap (j3 : Int) = (j3 : Int) from ⟨IntWalk.i64_in _ (by omega), IntWalk.i64_in _ (by omega), IntWalk.i64_in _ (by omega)⟩)
  have HB3 := Lib.hid (show j1 ≤ 1048580 ∧ j2 ≤ 1048580 ∧ j3 ≤ 1048580 by omega)
  clear hq h hn e0 e1 e2 e3 hj1 hj2 hj3 HB
  have k2 : ¬ b0 < 128 := by omega
  have k3 : ¬ b0 ≤ 223 := by omega
  have t1 : ((b0 : Int) == 224) = false := by simp; omega
  have t2 : ((b0 : Int) == 237) = true := by simp; omega
  by_cases l1 : j1 < n
  · have q1 := HQ.out j1 l1
    rw [HE.out.1] at q1
    by_cases c1 : 128 ≤ b1
    · by_cases c2 : b1 ≤ 159
      · by_cases T2 : j2 < n ∧ 128 ≤ b2 ∧ b2 ≤ 191
        · have K2 := Lib.hid (show Calls Tryd.prog 35 #[.slice (some a) n c, .int .i64 (j2 : Nat)] w fun e w' => e = .returned (.bool true) ∧ w' = w from (HC2.out).mono fun e w' ⟨⟨b, he, hb⟩, hw⟩ => ⟨by rw [he]; have : b = true := (hb.2 T2); rw [this], hw⟩)
          have q2 := HQ.out j2 T2.1
          rw [HE.out.2.1] at q2
          have l2 := T2.1
          have HW := Lib.hid (show (dz xs i).2 = 3 by have hj := HJ.out; rw [HDZ.out]; unfold zd; rw [if_neg (by omega), if_neg (by omega), if_pos (by omega), if_pos (by refine ⟨by omega, ?_, ?_, by omega, by omega⟩ <;> (split <;> omega))])
          clear T2
          go_enter Tryd.func32, Tryd.ntmps32
          go_wp2_with (first | (go_at_call 35; refine (K2.out).mono ?_; rintro e w1 ⟨rfl, hw1⟩; have hw2 := hw1.symm; subst hw2))
          obtain ⟨i1, i2, i3⟩ := HI.out
          go_quiet (fail)
          clear i1 i2 i3
          go_wp2_with fail
          go_ret2
          exact RuneW.of HW.out ⟨_, rfl⟩
        · have K2 := Lib.hid (show Calls Tryd.prog 35 #[.slice (some a) n c, .int .i64 (j2 : Nat)] w fun e w' => e = .returned (.bool false) ∧ w' = w from (HC2.out).mono fun e w' ⟨⟨b, he, hb⟩, hw⟩ => ⟨by rw [he]; have : b = false := (by cases b with | false => rfl | true => exact absurd (hb.1 rfl) T2); rw [this], hw⟩)
          have HW := Lib.hid (show (dz xs i).2 = 1 by have hj := HJ.out; rw [HDZ.out]; unfold zd; rw [if_neg (by omega), if_neg (by omega), if_pos (by omega), if_neg (by rintro ⟨h1, h2, h3, h4, h5⟩; (split at h2) <;> (split at h3) <;> omega)])
          clear T2
          go_enter Tryd.func32, Tryd.ntmps32
          go_wp2_with (first | (go_at_call 35; refine (K2.out).mono ?_; rintro e w1 ⟨rfl, hw1⟩; have hw2 := hw1.symm; subst hw2))
          go_ret2
          exact RuneW.of HW.out ⟨0, rfl⟩
      · have HW := Lib.hid (show (dz xs i).2 = 1 by have hj := HJ.out; rw [HDZ.out]; unfold zd; rw [if_neg (by omega), if_neg (by omega), if_pos (by omega), if_neg (by rintro ⟨h1, h2, h3, h4, h5⟩; (split at h2) <;> (split at h3) <;> omega)])
        go_enter Tryd.func32, Tryd.ntmps32
        go_wp2_with fail
        go_ret2
        exact RuneW.of HW.out ⟨0, rfl⟩
    · have HW := Lib.hid (show (dz xs i).2 = 1 by have hj := HJ.out; rw [HDZ.out]; unfold zd; rw [if_neg (by omega), if_neg (by omega), if_pos (by omega), if_neg (by rintro ⟨h1, h2, h3, h4, h5⟩; (split at h2) <;> (split at h3) <;> omega)])
      go_enter Tryd.func32, Tryd.ntmps32
      go_wp2_with fail
      go_ret2
      exact RuneW.of HW.out ⟨0, rfl⟩
  · have HW := Lib.hid (show (dz xs i).2 = 1 by have hj := HJ.out; rw [HDZ.out]; unfold zd; rw [if_neg (by omega), if_neg (by omega), if_pos (by omega), if_neg (by rintro ⟨h1, h2, h3, h4, h5⟩; (split at h2) <;> (split at h3) <;> omega)])
    go_enter Tryd.func32, Tryd.ntmps32
    go_wp2_with fail
    go_ret2
    exact RuneW.of HW.out ⟨0, rfl⟩
set_option maxRecDepth 100000 in
set_option maxHeartbeats 8000000 in
theorem zr_3C (w : World) (v : Value) (xs : List Int) (i : Nat) (h : At8 w v xs) (hl : xs.length ≤ 1048576) (hi : i < xs.length) (B0 : 224 ≤ nb xs i) (B1 : nb xs i ≤ 239) (B2 : nb xs i ≠ 224 ∧ nb xs i ≠ 237) :
    Calls Tryd.prog 32 #[v, .int .i64 i] w fun e w' => RuneW w xs i e w' := by
  obtain ⟨p, c, hv, hc, hq⟩ := h.cell
  obtain ⟨a, rfl, q0⟩ := hq i hi
  have HQ := Lib.hid (show ∀ j, j < xs.length → w.cell? (a.add j) = some (.int .u8 (nb xs j : Nat)) from fun j hj => by
    obtain ⟨a', ha, hc⟩ := hq j hj
    cases ha
    exact hc)
  obtain ⟨j1, hj1⟩ : ∃ j, i + 1 = j := ⟨_, rfl⟩
  obtain ⟨j2, hj2⟩ : ∃ j, i + 2 = j := ⟨_, rfl⟩
  obtain ⟨j3, hj3⟩ : ∃ j, i + 3 = j := ⟨_, rfl⟩
  have HJ := Lib.hid (And.intro hj1 (And.intro hj2 hj3))
  have HC1 := Lib.hid (ct35 w v xs j1 h hl (by omega)); have HC2 := Lib.hid (ct35 w v xs j2 h hl (by omega)); have HC3 := Lib.hid (ct35 w v xs j3 h hl (by omega))
  subst hv
  obtain ⟨n, hn⟩ : ∃ n, xs.length = n := ⟨_, rfl⟩
  have HDZ := Lib.hid (show dz xs i = zd (n - i) (nb xs i) (nb xs j1) (nb xs j2) (nb xs j3) by rw [← hn, ← hj1, ← hj2, ← hj3]; rfl)
  unfold Ct at HC1 HC2 HC3
  rw [hn] at HQ HC1 HC2 HC3 hc hl hi ⊢
  obtain ⟨b0, e0⟩ : ∃ x, nb xs i = x := ⟨_, rfl⟩
  obtain ⟨b1, e1⟩ : ∃ x, nb xs j1 = x := ⟨_, rfl⟩
  obtain ⟨b2, e2⟩ : ∃ x, nb xs j2 = x := ⟨_, rfl⟩
  obtain ⟨b3, e3⟩ : ∃ x, nb xs j3 = x := ⟨_, rfl⟩
  have HB := Lib.hid (show ∀ j, nb xs j < 256 from fun j => nb_lt h.2 j)
  have g0 := HB.out i; have g1 := HB.out j1; have g2 := HB.out j2; have g3 := HB.out j3
  have HE := Lib.hid (And.intro e1 (And.intro e2 e3))
  rw [e1] at HC1; rw [e2] at HC2; rw [e3] at HC3
  rw [e0, e1, e2, e3] at HDZ
  rw [e0] at q0
  rw [e0] at g0 B0 B1 B2; rw [e1] at g1; rw [e2] at g2; rw [e3] at g3
  have f1 : (i : Int) + 1 = (j1 : Int) := by omega
  have f2 : (i : Int) + 2 = (j2 : Int) := by omega
  have f3 : (i : Int) + 3 = (j3 : Int) := by omega
  have HI := Lib.hid (show IntKind.i64.wrap (j1 : Int) = (j1 : Int) ∧ IntKind.i64.wrap (j2 : Int) = (j2 : Int) ∧ IntKind.i64.wrap (j3 : Int) = (j3 : Int) from ⟨IntWalk.i64_in _ (by omega), IntWalk.i64_in _ (by omega), IntWalk.i64_in _ (by omega)⟩)
  have HB3 := Lib.hid (show j1 ≤ 1048580 ∧ j2 ≤ 1048580 ∧ j3 ≤ 1048580 by omega)
  clear hq h hn e0 e1 e2 e3 hj1 hj2 hj3 HB
  have k2 : ¬ b0 < 128 := by omega
  have k3 : ¬ b0 ≤ 223 := by omega
  have t1 : ((b0 : Int) == 224) = false := by simp; omega
  have t2 : ((b0 : Int) == 237) = false := by simp; omega
  by_cases l1 : j1 < n
  · have q1 := HQ.out j1 l1
    rw [HE.out.1] at q1
    by_cases c1 : 128 ≤ b1
    · by_cases c2 : b1 ≤ 191
      · by_cases T2 : j2 < n ∧ 128 ≤ b2 ∧ b2 ≤ 191
        · have K2 := Lib.hid (show Calls Tryd.prog 35 #[.slice (some a) n c, .int .i64 (j2 : Nat)] w fun e w' => e = .returned (.bool true) ∧ w' = w from (HC2.out).mono fun e w' ⟨⟨b, he, hb⟩, hw⟩ => ⟨by rw [he]; have : b = true := (hb.2 T2); rw [this], hw⟩)
          have q2 := HQ.out j2 T2.1
          rw [HE.out.2.1] at q2
          have l2 := T2.1
          have HW := Lib.hid (show (dz xs i).2 = 3 by have hj := HJ.out; rw [HDZ.out]; unfold zd; rw [if_neg (by omega), if_neg (by omega), if_pos (by omega), if_pos (by refine ⟨by omega, ?_, ?_, by omega, by omega⟩ <;> (split <;> omega))])
          clear T2
          go_enter Tryd.func32, Tryd.ntmps32
          go_wp2_with (first | (go_at_call 35; refine (K2.out).mono ?_; rintro e w1 ⟨rfl, hw1⟩; have hw2 := hw1.symm; subst hw2))
          obtain ⟨i1, i2, i3⟩ := HI.out
          go_quiet (fail)
          clear i1 i2 i3
          go_wp2_with fail
          go_ret2
          exact RuneW.of HW.out ⟨_, rfl⟩
        · have K2 := Lib.hid (show Calls Tryd.prog 35 #[.slice (some a) n c, .int .i64 (j2 : Nat)] w fun e w' => e = .returned (.bool false) ∧ w' = w from (HC2.out).mono fun e w' ⟨⟨b, he, hb⟩, hw⟩ => ⟨by rw [he]; have : b = false := (by cases b with | false => rfl | true => exact absurd (hb.1 rfl) T2); rw [this], hw⟩)
          have HW := Lib.hid (show (dz xs i).2 = 1 by have hj := HJ.out; rw [HDZ.out]; unfold zd; rw [if_neg (by omega), if_neg (by omega), if_pos (by omega), if_neg (by rintro ⟨h1, h2, h3, h4, h5⟩; (split at h2) <;> (split at h3) <;> omega)])
          clear T2
          go_enter Tryd.func32, Tryd.ntmps32
          go_wp2_with (first | (go_at_call 35; refine (K2.out).mono ?_; rintro e w1 ⟨rfl, hw1⟩; have hw2 := hw1.symm; subst hw2))
          go_ret2
          exact RuneW.of HW.out ⟨0, rfl⟩
      · have HW := Lib.hid (show (dz xs i).2 = 1 by have hj := HJ.out; rw [HDZ.out]; unfold zd; rw [if_neg (by omega), if_neg (by omega), if_pos (by omega), if_neg (by rintro ⟨h1, h2, h3, h4, h5⟩; (split at h2) <;> (split at h3) <;> omega)])
        go_enter Tryd.func32, Tryd.ntmps32
        go_wp2_with fail
        go_ret2
        exact RuneW.of HW.out ⟨0, rfl⟩
    · have HW := Lib.hid (show (dz xs i).2 = 1 by have hj := HJ.out; rw [HDZ.out]; unfold zd; rw [if_neg (by omega), if_neg (by omega), if_pos (by omega), if_neg (by rintro ⟨h1, h2, h3, h4, h5⟩; (split at h2) <;> (split at h3) <;> omega)])
      go_enter Tryd.func32, Tryd.ntmps32
      go_wp2_with fail
      go_ret2
      exact RuneW.of HW.out ⟨0, rfl⟩
  · have HW := Lib.hid (show (dz xs i).2 = 1 by have hj := HJ.out; rw [HDZ.out]; unfold zd; rw [if_neg (by omega), if_neg (by omega), if_pos (by omega), if_neg (by rintro ⟨h1, h2, h3, h4, h5⟩; (split at h2) <;> (split at h3) <;> omega)])
    go_enter Tryd.func32, Tryd.ntmps32
    go_wp2_with fail
    go_ret2
    exact RuneW.of HW.out ⟨0, rfl⟩
end Go.Proofs.YtlplikpjnocdfaaDoor
