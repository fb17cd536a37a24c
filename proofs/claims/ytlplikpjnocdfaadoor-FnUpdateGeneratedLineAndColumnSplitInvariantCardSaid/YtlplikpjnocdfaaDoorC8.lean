/-
  Two builders side by side; the wrappers.
-/
import Derived.Test.YtlplikpjnocdfaaDoorC6
import Derived.Test.YtlplikpjnocdfaaDoorC7
namespace Go.Proofs.YtlplikpjnocdfaaDoor
open Go.ChangeShapes Go.WideShapes Go.ChangeAt Go.RowKit
set_option linter.unusedVariables false
theorem BdS.ne {w : World} {K K' : Nat} {m v u : Value} {S : US} {lu fn : Int} (h : BdS w K m v S lu fn) {B : Nat} {xs : List Int} (hO : OwnB w B u xs) : some K ≠ u.ownBlock :=
  hO.ne (show w.heap[K]? = some (Obj.cells (bdV m v S.gl S.gcol S.si S.ol S.oc S.on S.hn lu S.gen fn S.hp S.ls) 61 (0, 0)) from h) (by decide)
theorem MvK.bd {K K' : Nat} {w w' : World} {v v' : Value} (h : MvK K w w' v v') {B : Nat} {xs : List Int} (hO : OwnB w B v xs) {m u : Value} {S : US} {lu fn : Int} (hb : BdS w K' m u S lu fn) (hne : K' ≠ K) : BdS w' K' m u S lu fn :=
  (h.block K' (Bd.lt hb) hne (hb.ne (K' := 0) hO)).trans hb
theorem MvK.own {K : Nat} {w w' : World} {v v' : Value} (h : MvK K w w' v v') {B : Nat} {u : Value} {ys : List Int} (hO : OwnB w B u ys) (h1 : u.ownBlock ≠ some K) (h2 : ∀ j, u.ownBlock = some j → v.ownBlock ≠ some j) : OwnB w' B u ys := by
  rcases hO with ⟨hl, h0 | ⟨g, cap, cur, rfl, hB, hg, hr⟩⟩
  · exact ⟨hl, Or.inl h0⟩
  · refine ⟨hl, Or.inr ⟨g, cap, cur, rfl, hB, ?_, hr⟩⟩
    rw [h.block g (Array.getElem?_eq_some_iff.1 hg).1 (fun e => h1 (by rw [← e]; rfl)) (fun e => h2 g rfl e.symm)]
    exact hg
/-- two builders, in blocks K1 and K2 -/
structure PR (w : World) (K1 K2 : Nat) (m1 m2 v1 v2 : Value) (S1 S2 : US) (L1 L2 : Int) : Prop where
  b1 : BdS w K1 m1 v1 S1 L1 0
  b2 : BdS w K2 m2 v2 S2 L2 0
  o1 : OwnB w (K1 + 1) v1 S1.buf
  o2 : OwnB w (K2 + 1) v2 S2.buf
  ne : K1 ≠ K2
  ap : ∀ j, v1.ownBlock = some j → v2.ownBlock ≠ some j
theorem PR.go1 {w w' : World} {K1 K2 : Nat} {m1 m2 v1 v2 v' : Value} {S1 S2 S' : US} {L1 L2 L' : Int} (h : PR w K1 K2 m1 m2 v1 v2 S1 S2 L1 L2) (hb : BdS w' K1 m1 v' S' L' 0) (ho : OwnB w' (K1 + 1) v' S'.buf) (hm : MvK K1 w w' v1 v') : PR w' K1 K2 m1 m2 v' v2 S' S2 L' L2 := by
  refine ⟨hb, hm.bd h.o1 h.b2 h.ne.symm, ho, hm.own h.o2 (fun e => (h.b1.ne (K' := 0) h.o2) e.symm) (fun j hj e => h.ap j e hj), h.ne, fun j hj e => ?_⟩
  rcases hm.at_ with e1 | ⟨i, e1, hi⟩
  · exact h.ap j (e1.symm.trans hj) e
  · rw [e1] at hj
    injection hj with hj
    have := h.o2.old j e
    omega
theorem PR.go2 {w w' : World} {K1 K2 : Nat} {m1 m2 v1 v2 v' : Value} {S1 S2 S' : US} {L1 L2 L' : Int} (h : PR w K1 K2 m1 m2 v1 v2 S1 S2 L1 L2) (hb : BdS w' K2 m2 v' S' L' 0) (ho : OwnB w' (K2 + 1) v' S'.buf) (hm : MvK K2 w w' v2 v') : PR w' K1 K2 m1 m2 v1 v' S1 S' L1 L' := by
  refine ⟨hm.bd h.o2 h.b1 h.ne, hb, hm.own h.o1 (fun e => (h.b2.ne (K' := 0) h.o1) e.symm) (fun j hj e => h.ap j hj e), ho, h.ne, fun j hj e => ?_⟩
  rcases hm.at_ with e1 | ⟨i, e1, hi⟩
  · exact h.ap j hj (e1.symm.trans e)
  · rw [e1] at e
    injection e with e
    have := h.o1.old j hj
    omega
theorem PR.keep {w w' : World} {K1 K2 : Nat} {m1 m2 v1 v2 : Value} {S1 S2 : US} {L1 L2 : Int} (h : PR w K1 K2 m1 m2 v1 v2 S1 S2 L1 L2) (hb : Below w.heap.size w w') : PR w' K1 K2 m1 m2 v1 v2 S1 S2 L1 L2 :=
  ⟨Bd.below h.b1 (hb.mono (Bd.lt h.b1)), Bd.below h.b2 (hb.mono (Bd.lt h.b2)), h.o1.keep hb, h.o2.keep hb, h.ne, h.ap⟩
/-- a fresh state; behind the one mapping -/
def US0 : US := ⟨[], 0, 0, 0, 0, 0, 0, false, 0, false, false⟩
def US1 : US := ⟨outM [] 0 false 7 1 2 3 0, 0, 7, 1, 2, 3, 0, false, 0, true, false⟩
theorem inv0 : Inv US0 0 := ⟨⟨by decide, by decide⟩, ⟨by decide, by decide⟩, ⟨by decide, by decide⟩, by decide, by decide⟩
theorem inv1 : Inv US1 0 := ⟨⟨by decide, by decide⟩, ⟨by decide, by decide⟩, ⟨by decide, by decide⟩, by decide, by decide⟩
set_option maxRecDepth 100000 in
theorem up22 (w : World) (K : Nat) (m v : Value) (pp : Option Addr) (cp : Nat) (o : List Int) (L : Nat) (S : US) (R oo cc : Nat) (hb : BdS w K m v S L 0) (hO : OwnB w (K + 1) v S.buf) (hT : TabB w K R oo cc) (hI : Inv S L)
    (hA : ∀ W, Below K w W → At8 W (.slice pp o.length cp) o) (hz : pp = none → cp = 0) (hl : o.length ≤ 1048576) (hL : L ≤ o.length) :
    Calls Tryd.prog 22 #[.pointer (some ⟨K, 0, none⟩), .slice pp o.length cp] w fun e w' => e = .returned (.tuple #[]) ∧ ∃ v', BdS w' K m v' (scan o L S) o.length 0 ∧ OwnB w' (K + 1) v' (scan o L S).buf ∧ MvK K w w' v v' := by
  have H := Lib.hid (up33 w K m v pp cp o L S 0 R oo cc hb hO hT hI hA hz hl hL)
  clear hb hO hT hI hA hz hl hL
  go_enter Tryd.func22, Tryd.ntmps22
  go_wp2_with fail
  refine (H.out).mono ?_
  rintro e w1 ⟨rfl, v', h1, h2, h3⟩
  have H1 := Lib.hid h1; have H2 := Lib.hid h2; have H3 := Lib.hid h3
  clear h1 h2 h3
  dsimp only
  go_wp2_with fail
  go_end0
  exact ⟨rfl, v', H1.out, H2.out, H3.out⟩
/-- the invariant behind a whole scan -/
theorem scan_inv (o : List Int) {i : Nat} {S : US} (h : Inv S i) (hi : i ≤ o.length) : Inv (scan o i S) o.length := by
  have aux : ∀ f i S, Inv S i → i ≤ o.length → o.length - i ≤ f → Inv (scan o i S) o.length := by
    intro f
    induction f with
    | zero =>
      intro i S h hi hf
      rw [scan_end o i S (by omega), show o.length = i by omega]; exact h
    | succ f ih =>
      intro i S h hi hf
      by_cases hlt : i < o.length
      · rw [scan_step o i S hlt]
        have hw := dz_w o i
        exact ih _ _ (h.nxt _ _ _ hw.1) (dz_fit o i hlt) (by omega)
      · rw [scan_end o i S (by omega), show o.length = i by omega]; exact h
  exact aux _ i S h hi (Nat.le_refl _)
/-- the one mapping ahead -/
theorem mp10 (w : World) (K : Nat) (m : Value) (R oo cc : Nat) (hb : BdS w K m (.slice none 0 0) US0 0 0) (hO : OwnB w (K + 1) (.slice none 0 0) US0.buf) (hT : TabB w K R oo cc) :
    Calls Tryd.prog 10 #[.pointer (some ⟨K, 0, none⟩), .agg (stV 0 7 1 2 3 0 false)] w fun e w' => e = .returned (.tuple #[]) ∧ ∃ v', BdS w' K m v' US1 0 0 ∧ OwnB w' (K + 1) v' US1.buf ∧ MvK K w w' (.slice none 0 0) v' := by
  refine (ap10 w K m (.slice none 0 0) [] 0 0 0 0 0 0 0 false 0 0 0 false false 0 7 1 2 3 0 false R oo cc hb hO hT (by simp) (by decide) (Or.inl ⟨rfl, rfl⟩) (by unfold In33; omega) (by unfold In33; omega) (by unfold In33; omega) (by unfold In33; omega) (fun h => by cases h) _ _ rfl rfl).mono ?_
  rintro e w' ⟨rfl, v', h1, h2, h3⟩
  exact ⟨rfl, v', h1, h2, h3⟩
theorem At8.take {w : World} {p : Option Addr} {n c : Nat} {xs : List Int} (h : At8 w (.slice p n c) xs) (k : Nat) (hk : k ≤ n) : At8 w (.slice p k c) (xs.take k) := by
  obtain ⟨⟨p', c', e, hc, hi⟩, hb⟩ := h
  injection e with e1 e2 e3
  subst e1 e2 e3
  have hl : (xs.take k).length = k := by simp; omega
  refine ⟨⟨p, c, by rw [hl], by omega, fun i hik => ?_⟩, hb.take k⟩
  rw [hl] at hik
  obtain ⟨a, ha, hq⟩ := hi i (by omega)
  refine ⟨a, ha, ?_⟩
  rw [hq]
  simp [List.getD, hik]
theorem At8.nil {w : World} {n c : Nat} {xs : List Int} (h : At8 w (.slice none n c) xs) : n = 0 := by
  obtain ⟨⟨p', c', e, hc, hi⟩, hb⟩ := h
  injection e with e1 e2 e3
  by_cases hn : n = 0
  · exact hn
  · obtain ⟨a, ha, _⟩ := hi 0 (by omega)
    rw [← e1] at ha; cases ha
end Go.Proofs.YtlplikpjnocdfaaDoor
