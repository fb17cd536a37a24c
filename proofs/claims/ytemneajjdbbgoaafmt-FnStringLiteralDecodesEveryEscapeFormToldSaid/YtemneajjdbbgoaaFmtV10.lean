/-
  The walk of FnStringLiteralDecodesEveryEscapeForm.
-/
import Derived.Test.YtemneajjdbbgoaaFmtV9
namespace Go.Proofs.YtemneajjdbbgoaaFmt
open Go.ChangeShapes Go.WideShapes Go.ChangeAt Go.RowKit
set_option linter.unusedVariables false
theorem below_drewN (w : World) (n : Nat) : Below w.heap.size w (w.drewN n) := ⟨rfl, rfl, rfl, Nat.le_refl _, fun _ _ => rfl⟩
theorem isRow_range {k : IntKind} {w : World} {a : Option Addr} {len cap : Nat} {z : List Int} (h : IsRow k w a len cap z) : ∀ u ∈ z.take len, (Lit.int k u).wf = true := by
  intro u hu
  rcases h with ⟨_, _, _, rfl⟩ | ⟨x, _, _, _, _, _, h⟩
  · simp at hu
  · exact h u (List.mem_of_mem_take hu)
set_option maxRecDepth 100000 in
set_option maxHeartbeats 4000000 in
theorem FnStringLiteralDecodesEveryEscapeForm_walk (a0 : Option Addr) (len0 cap0 : Nat) (z0 : List Int) (a1 : Option Addr) (len1 cap1 : Nat) (z1 : List Int) (w : World) (w0 : IsRow .u16 w a0 len0 cap0 z0) (w1 : IsRow .u8 w a1 len1 cap1 z1) (hT : Lib.Utf8Tabs 0 1 w) :
    Calls Tryf.prog 3 #[.slice a0 len0 cap0, .slice a1 len1 cap1] w fun e w' => e = .returned (.bool true) ∧ Below w.heap.size w w' := by
  obtain ⟨hun, hul⟩ := IsRow.units w0
  obtain ⟨hbn, hbl⟩ := IsRow.bytes w1
  have hur : ∀ x ∈ z0.take len0, 0 ≤ x ∧ x < 65536 := by
    intro x hx
    have h := isRow_range w0 x hx
    simp only [Lit.wf, Bool.and_eq_true, decide_eq_true_eq] at h
    have e1 : IntKind.u16.min = 0 := by decide
    have e2 : IntKind.u16.max = 65535 := by decide
    omega
  have hmr : ∀ x ∈ z1.take len1, 0 ≤ x ∧ x < 256 := by
    intro x hx
    have h := isRow_range w1 x hx
    simp only [Lit.wf, Bool.and_eq_true, decide_eq_true_eq] at h
    have e1 : IntKind.u8.min = 0 := by decide
    have e2 : IntKind.u8.max = 255 := by decide
    omega
  obtain ⟨U, hU⟩ : ∃ U, z0.take len0 = U := ⟨_, rfl⟩
  obtain ⟨M, hM⟩ : ∃ M, z1.take len1 = M := ⟨_, rfl⟩
  rw [hU] at hun hul hur
  rw [hM] at hbn hbl hmr
  clear hU hM w0 w1
  have HUN := Lib.hid hun; have HBN := Lib.hid hbn; have HUR := Lib.hid hur; have HMR := Lib.hid hmr; have HT := Lib.hid hT
  have HUL := Lib.hid hul; have HBL := Lib.hid hbl
  clear hun hbn hur hmr hT hul hbl
  go_enter Tryf.func3, Tryf.ntmps3
  go_wp2_with fail
  refine (zb4 w _ _ _ _ _ _).mono ?_
  rintro e w1 ⟨⟨b, rfl⟩, rfl⟩
  cases b
  · dsimp only
    go_wp2_with fail
    go_ret
    exact ⟨rfl, Below.refl _ _⟩
  by_cases h1 : len0 ≤ 65536
  case neg =>
    dsimp only
    go_wp2_with fail
    go_ret
    exact ⟨rfl, Below.refl _ _⟩
  by_cases h2 : len1 ≤ 65536
  case neg =>
    dsimp only
    go_wp2_with fail
    go_ret
    exact ⟨rfl, Below.refl _ _⟩
  dsimp only
  go_wp2_with fail
  refine (cl5 w a0 len0 cap0 U HUN.out (by omega)).mono ?_
  rintro e w5 ⟨p, rfl, hu5, hb5⟩
  have HU5 := Lib.hid hu5; have HB5 := Lib.hid hb5
  clear hu5 hb5
  dsimp only
  go_wp2_with fail
  refine (cl6 w5 a1 len1 cap1 M (HBN.out.keep HB5.out) (by omega)).mono ?_
  rintro e w6 ⟨q, rfl, hm6, hb6⟩
  have HU6 := Lib.hid (HU5.out.units.keep hb6); have HM6 := Lib.hid hm6.bytes; have HB6 := Lib.hid (HB5.out.trans (hb6.mono HB5.out.size))
  clear hm6 hb6
  dsimp only
  have hen := enF w6 p q len0 len1 U M (by rw [HUL.out]; exact HU6.out) (by rw [HBL.out]; exact HM6.out) HUR.out HMR.out (by rw [HUL.out]; exact h1) (by rw [HBL.out]; exact h2)
  rw [HUL.out, HBL.out] at hen
  have HEN := Lib.hid hen
  clear hen
  go_wp2_with fail
  refine HEN.out.mono ?_
  rintro e w7 ⟨⟨E, R, rfl, hE, hEl⟩, hb7⟩
  obtain ⟨c, hc⟩ : ∃ c, strOfNums E = c := ⟨_, rfl⟩
  have HC := Lib.hid (show Ch32 c 0 U by rw [← hc]; exact hE.chain)
  have hcs : c.size ≤ 1048576 := by rw [← hc, strOfNums_size]; omega
  have HU7 := Lib.hid (HU6.out.keep hb7); have HB7 := Lib.hid (HB6.out.trans (hb7.mono HB6.out.size))
  rw [hc]
  clear hE hEl hb7 hc HEN
  dsimp only
  go_wp2_with fail
  refine (ex8 c w7).mono ?_
  rintro e w8 ⟨⟨g, rfl, hL, hg⟩, hb8⟩
  have HL := Lib.hid hL; have HB78 := Lib.hid hb8; have HB8 := Lib.hid (HB7.out.trans (hb8.mono HB7.out.size))
  have HG := Lib.hid hg
  clear hL hg hb8
  dsimp only
  go_wp2_with fail
  refine (sl9a g w8 c U HL.out (tabs_below HT.out HB8.out) hcs HC.out).mono ?_
  rintro e w9 ⟨v, rfl, hn, ho, hv, hb9⟩
  have HB79 := Lib.hid (HB78.out.trans (hb9.mono HG.out))
  have HU9 := Lib.hid (HU7.out.keep HB79.out)
  have HB9 := Lib.hid (HB7.out.trans (HB79.out.mono HB7.out.size))
  have HO := Lib.hid ho.units
  have HV := Lib.hid hv
  obtain ⟨a, n, cc, rfl⟩ := hn
  clear ho hv hb9
  dsimp only
  go_wp2_with fail
  refine (eq17 w9 _ _ U U HO.out HU9.out (by rw [HUL.out]; omega) (by rw [HUL.out]; omega)).mono ?_
  rintro e wx ⟨⟨b, rfl, hb⟩, n1, rfl⟩
  obtain rfl : b = true := hb.2 rfl
  clear hb
  dsimp only
  go_wp2_with fail
  refine (sl9b g (w9.drewN n1) _ HV.out ⟨_, _, _, rfl⟩).mono ?_
  rintro e wx ⟨rfl, rfl⟩
  dsimp only
  go_wp2_with fail
  refine (eq17 (w9.drewN n1) _ _ U U (HO.out.keep (below_drewN _ _)) (HU9.out.keep (below_drewN _ _)) (by rw [HUL.out]; omega) (by rw [HUL.out]; omega)).mono ?_
  rintro e wx ⟨⟨b, rfl, hb⟩, n2, rfl⟩
  obtain rfl : b = true := hb.2 rfl
  clear hb
  dsimp only
  go_wp2_with fail
  go_ret
  exact ⟨rfl, HB9.out.trans (((below_drewN w9 n1).trans ((below_drewN (w9.drewN n1) n2).mono (Nat.le_refl _))).mono HB9.out.size)⟩
end Go.Proofs.YtemneajjdbbgoaaFmt
