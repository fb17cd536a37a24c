/-
  What the row's list gives: the kinds' names lie in their variable; the walk of FnStringDistinguishesKindsButIdentifierAlias.
-/
import Derived.Test.YtkhcbbpkppkgjaaDoorRows
import Derived.Lib.LaidU8
import Derived.WalkKit
import Derived.ProofKit
import Derived.OpenShut
import Derived.Lib.Hide
import Derived.Outline
import Derived.WalkLawsBesides
import Derived.Stop.Joined
import Derived.LaidMore
namespace Go.Proofs.YtkhcbbpkppkgjaaDoor
open Go.ChangeShapes Go.WideShapes Go.ChangeAt Go.RowKit
set_option linter.unusedVariables false
/-- the kinds' names -/
def tkS : List (List UInt8) := [[101, 110, 100, 32, 111, 102, 32, 102, 105, 108, 101], [64, 45, 107, 101, 121, 119, 111, 114, 100], [98, 97, 100, 32, 115, 116, 114, 105, 110, 103, 32, 116, 111, 107, 101, 110], [98, 97, 100, 32, 85, 82, 76, 32, 116, 111, 107, 101, 110], [34, 45, 45, 62, 34], [34, 60, 33, 45, 45, 34], [34, 125, 34], [34, 93, 34], [34, 41, 34], [34, 58, 34], [34, 44, 34], [100, 101, 108, 105, 109, 105, 116, 101, 114], [34, 38, 34], [34, 42, 34], [34, 124, 34], [34, 94, 34], [34, 36, 34], [34, 46, 34], [34, 61, 34], [34, 33, 34], [34, 62, 34], [34, 60, 34], [34, 45, 34], [34, 43, 34], [34, 47, 34], [34, 126, 34], [100, 105, 109, 101, 110, 115, 105, 111, 110], [102, 117, 110, 99, 116, 105, 111, 110, 32, 116, 111, 107, 101, 110], [104, 97, 115, 104, 32, 116, 111, 107, 101, 110], [105, 100, 101, 110, 116, 105, 102, 105, 101, 114], [110, 117, 109, 98, 101, 114], [34, 123, 34], [34, 91, 34], [34, 40, 34], [112, 101, 114, 99, 101, 110, 116, 97, 103, 101], [34, 59, 34], [115, 116, 114, 105, 110, 103, 32, 116, 111, 107, 101, 110], [85, 82, 76, 32, 116, 111, 107, 101, 110], [119, 104, 105, 116, 101, 115, 112, 97, 99, 101], [105, 100, 101, 110, 116, 105, 102, 105, 101, 114]]
def strData (l : List (List UInt8)) : DataW Unit := .slice (l.map fun x => .lit (.string x)) []
theorem tk_is : (Rows.laid_github_com_evanw_esbuild_internal_css_lexer_tokenToString : DataW Unit) = strData tkS := by kernel_rfl
def TabStr (w : World) : Prop := ∃ R o c : Nat, w.cell? ⟨0, 0, none⟩ = some (.slice (some ⟨R, o, none⟩) 40 c) ∧ ∀ j, j < 40 → w.cell? ⟨R, o + j, none⟩ = some (.string ⟨(tkS.getD j []).toArray⟩)
theorem strs_of_reads {P : Program} {w : World} {name : String} {g : Nat} {t e : TypeId} {l : List (List UInt8)} (hn : P.globalNamed name = some g) (hy : (P.globals[g]?).map (·.type) = some t)
    (ht : P.underlying t = some (.slice e)) (he : P.underlying e = some .string) (hc : P.cellsOf e = 1) (hl : 0 < l.length) (h : Lib.VarReads P w name (strData l)) :
    ∃ R o c : Nat, w.cell? ⟨g, 0, none⟩ = some (.slice (some ⟨R, o, none⟩) l.length c) ∧ ∀ j, j < l.length → w.cell? ⟨R, o + j, none⟩ = some (.string ⟨(l.getD j []).toArray⟩) := by
  obtain ⟨g', t', cs, fuel, p, hg, hty, hvar, hd⟩ := h
  obtain rfl := Option.some.inj (hn.symm.trans hg)
  obtain rfl := Option.some.inj (hy.symm.trans hty)
  rcases DataW.trod_slice ht hd with ⟨_, hx⟩ | ⟨a, len, cap, el, rs, m, rfl, hcs, hx, _, hlc, _, hel, helem, hsp, _⟩
  · cases hx
  have e0 := congrArg Prod.fst hx
  simp only [strData, DataW.slice.injEq] at e0
  obtain ⟨eE, eR⟩ := e0
  have hlen : len = l.length := by
    have := congrArg List.length eE
    simp at this
    omega
  have hcell : ∀ i, i < l.length → w.cell? (a.add i) = some (.string ⟨(l.getD i []).toArray⟩) := by
    intro i hi
    have h1 := helem i (by omega)
    rw [hc] at h1
    obtain ⟨b, hb⟩ : ∃ b, el[i]? = some b := ⟨el[i]'(by omega), List.getElem?_eq_getElem (by omega)⟩
    rw [hb] at h1
    obtain ⟨ce, hce, hte⟩ := Option.bind_eq_some_iff.1 h1
    obtain ⟨z, hz, hbz, _⟩ := DataW.trod_string he hte
    have hb1 : b.1 = .lit (.string (l.getD i [])) := by
      have := congrArg (·[i]?) eE
      simp [hb, hi] at this
      have e2 : l.getD i [] = l[i] := by simp [List.getD, List.getElem?_eq_getElem hi]
      rw [e2]
      exact this.symm
    rw [hbz] at hb1
    simp only [DataW.lit.injEq, Lit.string.injEq] at hb1
    obtain ⟨_, _, hcc⟩ := World.cells?_some hce
    have := hcc 0 (by omega)
    rw [hz] at this
    simp only [Nat.mul_one] at this
    have e1 : (a.add i).add 0 = a.add i := by simp [Addr.add]
    rw [e1] at this
    rw [this, ← hb1]
    rfl
  obtain ⟨R, o, sR⟩ := a
  obtain rfl : sR = none := by
    have h00 := hcell 0 hl
    have : (Addr.add ⟨R, o, sR⟩ 0) = ⟨R, o, sR⟩ := by simp [Addr.add]
    rw [this] at h00
    exact Go.Proofs.cell_spot h00
  refine ⟨R, o, cap, ?_, fun j hj => ?_⟩
  · rw [World.var?_cell hg hvar 0, ← Array.getElem?_toList, hcs, hlen]
    rfl
  · have := hcell j hj
    rwa [Addr.add_lit] at this
theorem str_of {W : World} (h : laidMetH Tryd.prog [("github.com/evanw/esbuild/internal/css_lexer.tokenToString", Rows.laid_github_com_evanw_esbuild_internal_css_lexer_tokenToString)] W) : TabStr W := by
  rw [MakeChecks.laidMetH_plain _ _ _ (by kernel_rfl)] at h
  rw [tk_is] at h
  exact strs_of_reads (l := tkS) (t := 79) (e := 9) (by kernel_rfl) (by kernel_rfl) Tryd.underlying79 Tryd.underlying9 (by kernel_rfl) (by decide) (Lib.laidMet.reads (n := "github.com/evanw/esbuild/internal/css_lexer.tokenToString") h (by simp))
/-- kind t's name -/
def nameOf (t : Nat) : ByteArray := ⟨(tkS.getD t []).toArray⟩
def sameB (t u : Nat) : Bool := t == u || ((t == 29 || t == 39) && (u == 29 || u == 39))
theorem names_tell : ∀ t, t < 40 → ∀ u, u < 40 → (tkS.getD t [] == tkS.getD u []) = sameB t u := by decide +kernel
theorem names_full : ∀ t, t < 40 → (tkS.getD t []).length ≠ 0 ∧ (tkS.getD t []).length < 100 := by decide +kernel
theorem name_size (t : Nat) : (nameOf t).size = (tkS.getD t []).length := by simp [nameOf, ByteArray.size]
theorem name_list (t : Nat) : (nameOf t).toList = tkS.getD t [] := by rw [ByteArray.toList_eq]; simp [nameOf]
set_option maxRecDepth 100000 in
theorem str21 (w : World) (t : Nat) (ht : t < 40) (hT : TabStr w) : Calls Tryd.prog 21 #[.int .u8 t] w fun e w' => e = .returned (.string (nameOf t)) ∧ w = w' := by
  obtain ⟨R, o, c, hg, hj⟩ := hT
  have h := hj t ht
  have e : (⟨(tkS.getD t []).toArray⟩ : ByteArray) = nameOf t := rfl
  rw [e] at h
  clear hj e
  go_enter Tryd.func21, Tryd.ntmps21
  go_wp2_with fail
  go_ret
  exact ⟨rfl, rfl⟩
set_option maxRecDepth 100000 in
theorem alias22 (w : World) (t : Nat) : Calls Tryd.prog 22 #[.int .u8 t] w fun e w' => e = .returned (.bool (t == 29 || t == 39)) ∧ w = w' := by
  by_cases h1 : t = 29
  · subst h1
    go_enter Tryd.func22, Tryd.ntmps22
    go_wp2_with fail
    go_ret
    exact ⟨rfl, rfl⟩
  have d1 : ((t : Int) == 29) = false := by simp; omega
  by_cases h2 : t = 39
  · subst h2
    go_enter Tryd.func22, Tryd.ntmps22
    go_wp2_with fail
    go_ret
    exact ⟨rfl, rfl⟩
  have d2 : ((t : Int) == 39) = false := by simp; omega
  have HR := Lib.hid (show (t == 29 || t == 39) = false by simp [h1, h2])
  clear h1 h2
  go_enter Tryd.func22, Tryd.ntmps22
  go_wp2_with fail
  go_ret
  exact ⟨by rw [HR.out]; rfl, rfl⟩
set_option maxRecDepth 100000 in
set_option maxHeartbeats 2000000 in
theorem FnStringDistinguishesKindsButIdentifierAlias_walk (a0 : Int) (a1 : Int) (w0 : (Lit.int .u8 a0).wf = true) (w1 : (Lit.int .u8 a1).wf = true) (w : World) (hT : TabStr w) :
    Calls Tryd.prog 7 #[.int .u8 a0, .int .u8 a1] w fun e w' => e = .returned (.bool true) ∧ Below w.heap.size w w' := by
  have p0 : 0 ≤ a0 := by
    have h := w0
    simp only [Lit.wf, Bool.and_eq_true, decide_eq_true_eq] at h
    have e : IntKind.u8.min = 0 := by decide
    omega
  have p1 : 0 ≤ a1 := by
    have h := w1
    simp only [Lit.wf, Bool.and_eq_true, decide_eq_true_eq] at h
    have e : IntKind.u8.min = 0 := by decide
    omega
  obtain ⟨t, rfl⟩ := Int.eq_ofNat_of_zero_le p0
  obtain ⟨u, rfl⟩ := Int.eq_ofNat_of_zero_le p1
  clear p0 p1 w0 w1
  by_cases s0 : 39 < t
  · go_enter Tryd.func7, Tryd.ntmps7
    go_wp2; go_ret; exact ⟨rfl, Below.refl _ _⟩
  by_cases s1 : 39 < u
  · go_enter Tryd.func7, Tryd.ntmps7
    go_wp2; go_ret; exact ⟨rfl, Below.refl _ _⟩
  have HS0 := Lib.hid (str21 w t (by omega) hT)
  have HS1 := Lib.hid (str21 w u (by omega) hT)
  have z0 := names_full t (by omega)
  have z1 := names_full u (by omega)
  rw [← name_size] at z0 z1
  have htell : ((nameOf t).toList == (nameOf u).toList) = sameB t u := by rw [name_list, name_list]; exact names_tell t (by omega) u (by omega)
  have k0 : (((nameOf t).size : Int) == 0) = false := beq_eq_false_iff_ne.2 (by omega)
  have k1 : (((nameOf u).size : Int) == 0) = false := beq_eq_false_iff_ne.2 (by omega)
  generalize nameOf t = A at *
  generalize nameOf u = B at *
  have HA := Lib.hid (fun w => alias22 w t)
  have HB := Lib.hid (fun w => alias22 w u)
  clear z0 z1 hT
  by_cases htu : t = u
  · have d : ((t : Int) == (u : Int)) = true := by simp; omega
    have hs : sameB t u = true := by simp [sameB, htu]
    rw [hs] at htell
    clear hs htu
    go_enter Tryd.func7, Tryd.ntmps7
    go_wp2_with fail
    refine (HS0.out).mono ?_
    rintro e w2 ⟨rfl, rfl⟩
    go_wp2_with fail
    refine (HS1.out).mono ?_
    rintro e w2 ⟨rfl, rfl⟩
    go_wp2_with fail
    go_ret
    exact ⟨rfl, Below.refl _ _⟩
  · have d : ((t : Int) == (u : Int)) = false := by simp; omega
    have hs : sameB t u = ((t == 29 || t == 39) && (u == 29 || u == 39)) := by simp [sameB, htu]
    rw [hs] at htell
    clear hs htu
    generalize (t == 29 || t == 39) = p at *
    generalize (u == 29 || u == 39) = q at *
    cases p
    · simp only [Bool.false_and] at htell
      go_enter Tryd.func7, Tryd.ntmps7
      go_wp2_with fail
      refine (HS0.out).mono ?_
      rintro e w2 ⟨rfl, rfl⟩
      go_wp2_with fail
      refine (HS1.out).mono ?_
      rintro e w2 ⟨rfl, rfl⟩
      go_wp2_with fail
      refine (HA.out _).mono ?_
      rintro e w2 ⟨rfl, rfl⟩
      go_wp2_with fail
      go_ret
      exact ⟨rfl, Below.refl _ _⟩
    · simp only [Bool.true_and] at htell
      cases q
      all_goals
        go_enter Tryd.func7, Tryd.ntmps7
        go_wp2_with fail
        refine (HS0.out).mono ?_
        rintro e w2 ⟨rfl, rfl⟩
        go_wp2_with fail
        refine (HS1.out).mono ?_
        rintro e w2 ⟨rfl, rfl⟩
        go_wp2_with fail
        refine (HA.out _).mono ?_
        rintro e w2 ⟨rfl, rfl⟩
        go_wp2_with fail
        refine (HB.out _).mono ?_
        rintro e w2 ⟨rfl, rfl⟩
        go_wp2_with fail
        go_ret
        exact ⟨rfl, Below.refl _ _⟩
end Go.Proofs.YtkhcbbpkppkgjaaDoor
