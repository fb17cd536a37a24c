/-
  The builder behind k states; zzBytes.
-/
import Derived.Test.YtlplikpjnocdfaaDoorB5
namespace Go.Proofs.YtlplikpjnocdfaaDoor
open Go.ChangeShapes Go.WideShapes Go.ChangeAt Go.RowKit
set_option linter.unusedVariables false

set_option maxRecDepth 100000 in
set_option maxHeartbeats 2000000 in
/-- the export of appendMappingWithoutRemapping -/
theorem ap10 (w : World) (k : Nat) (m v : Value) (xs : List Int) (lb : Int) (p0 p1 p2 p3 p4 p5 : Int) (ph : Bool) (lu gc fn : Int) (hp ls : Bool) (c0 c1 c2 c3 c4 c5 : Int) (ch : Bool) (R o cc : Nat)
    (hb : Bd w k m v p0 p1 p2 p3 p4 p5 ph lu gc fn hp ls) (hO : OwnB w (k + 1) v xs) (hT : TabB w k R o cc) (hxs : xs.length ≤ 33554432) (hlb : lb ≠ 34) (hlast : (xs = [] ∧ lb = 0) ∨ ∃ ys, xs = ys ++ [lb])
    (e1 : In33 (c1 - p1)) (e2 : In33 (c2 - p2)) (e3 : In33 (c3 - p3)) (e4 : In33 (c4 - p4)) (e5 : ch = true → In33 (c5 - p5)) (I : Int) (XS : List Int)
    (hI : nameI xs lb ch (c1 - p1) (c2 - p2) (c3 - p3) (c4 - p4) = I) (hX : outM xs lb ch (c1 - p1) (c2 - p2) (c3 - p3) (c4 - p4) (c5 - p5) = XS) :
    Calls Tryd.prog 10 #[.pointer (some ⟨k, 0, none⟩), .agg (stV c0 c1 c2 c3 c4 c5 ch)] w fun e w' => e = .returned (.tuple #[]) ∧ ∃ v', Bd w' k m v' c0 c1 c2 c3 c4 (if ch then c5 else p5) ch lu gc (fnI ch fn I) true ls ∧ OwnB w' (k + 1) v' XS ∧ MvK k w w' v v' := by
  have hk := hb.lt
  have hb0 : Below w.heap.size w (w.alloc (Obj.cells (stV c0 c1 c2 c3 c4 c5 ch) 32)) := (Below.refl _ _).alloc (Nat.le_refl _) _
  have H := Lib.hid (am28 (w.alloc (Obj.cells (stV c0 c1 c2 c3 c4 c5 ch) 32)) k m v xs lb p0 p1 p2 p3 p4 p5 ph lu gc fn hp ls c0 c1 c2 c3 c4 c5 ch R o cc (hb.below (hb0.mono hk)) (hO.keep hb0) (hT.below (hb0.mono (by omega))) hxs hlb hlast e1 e2 e3 e4 e5 I XS (Lib.hid hI) (Lib.hid hX))
  have HM := Lib.hid ((Mv.of_below v hb0).k k)
  obtain ⟨W0, hW0⟩ : ∃ W0, w.alloc (Obj.cells (stV c0 c1 c2 c3 c4 c5 ch) 32) = W0 := ⟨_, rfl⟩
  rw [hW0] at H HM
  obtain ⟨q5, hq5⟩ : ∃ q, (if ch = true then c5 else p5) = q := ⟨_, rfl⟩
  rw [hq5] at H ⊢
  clear hq5
  have HW0 := Lib.hid hW0
  clear hb hO hT hlast hlb hxs e1 e2 e3 e4 e5 hI hX hb0 hW0 hk
  go_enter Tryd.func10, Tryd.ntmps10
  go_wp2_with fail
  rw [HW0.out]
  refine (H.out).mono ?_
  rintro e w1 ⟨rfl, v', h1, h2, h3⟩
  have H1 := Lib.hid h1; have H2 := Lib.hid h2; have H3 := Lib.hid (HM.out.trans h3)
  clear h1 h2 h3
  dsimp only
  go_wp2_with fail
  go_end0
  exact ⟨rfl, v', H1.out, H2.out, H3.out⟩
def fnv (x : Int) : Int := if x < 0 then 0 else flp x
def hbk (b : List Bool) (k : Nat) : Bool := if k = 0 then false else b.getD (k - 1) false
section
variable {g s l o n : List Int} {b : List Bool}
theorem fo_in (k : Nat) : -1 ≤ fo g s l o n b k ∧ fo g s l o n b k ≤ 36 * k := by
  induction k with
  | zero => simp [fo]
  | succ k ih =>
    rw [fo]
    have h0 := bf_len (g := g) (s := s) (l := l) (o := o) (n := n) (b := b) k
    have h1 := encs_le (d4 g s l o k)
    have h2 : (d4 g s l o k).length = 4 := rfl
    have h3 : (sep k).length ≤ 1 := by unfold sep; split <;> simp
    split
    · simp only [List.length_append]; omega
    · omega
theorem fn_step (k : Nat) (hk : k ≤ 1048576) (lb : Int) (hlb : cma lb = sep k) :
    fnI (b.getD k false) (fnv (fo g s l o n b k)) (nameI (bf g s l o n b k) lb (b.getD k false) (g.getD k 0 - pv g k) (s.getD k 0 - pv s k) (l.getD k 0 - pv l k) (o.getD k 0 - pv o k)) = fnv (fo g s l o n b (k + 1)) := by
  unfold nameI
  rw [hlb, seg4_is, fo]
  have hf := fo_in (g := g) (s := s) (l := l) (o := o) (n := n) (b := b) k
  generalize hF : fo g s l o n b k = F at *
  generalize hL : (bf g s l o n b k ++ sep k ++ encs (d4 g s l o k)).length = L
  unfold fnI fnv
  by_cases hb : b.getD k false = true
  · rw [hb]
    by_cases hneg : F < 0
    · have h1 : ¬ ((L : Int) < 0) := by omega
      simp [hneg, h1]
    · obtain ⟨q, rfl⟩ := Int.eq_ofNat_of_zero_le (by omega : 0 ≤ F)
      have hfl : ¬ flp (q : Int) = 0 := by rw [flp_nat q (by omega)]; omega
      simp [hneg, hfl]
  · have hb' : b.getD k false = false := by simpa using hb
    rw [hb']
    simp
/-- the builder in block K behind k states -/
structure BT (w wr : World) (K : Nat) (g s l o n : List Int) (b : List Bool) (k : Nat) (v : Value) : Prop where
  bd : ∃ m, Bd wr K m v 0 (pv g k) (pv s k) (pv l k) (pv o k) (ln n b k) (hbk b k) 0 0 (fnv (fo g s l o n b k)) (decide (0 < k)) false
  own : OwnB wr (K + 1) v (bf g s l o n b k)
  be : Below w.heap.size w wr
  lo : w.heap.size ≤ K
theorem BT.start {w wr : World} {K : Nat} {m : Value} (hb : Bd wr K m (.slice none 0 0) 0 0 0 0 0 0 false 0 0 0 false false) (hw : Below w.heap.size w wr) (lo : w.heap.size ≤ K) : BT w wr K g s l o n b 0 (.slice none 0 0) :=
  ⟨⟨m, hb⟩, World.ownsRow_nil _ _ _ _, hw, lo⟩
theorem BT.lt {w wr : World} {K k : Nat} {v : Value} (h : BT w wr K g s l o n b k v) : K < wr.heap.size := by obtain ⟨m, hb⟩ := h.bd; exact hb.lt
theorem BT.keep {w wr w' : World} {K k : Nat} {v : Value} (h : BT w wr K g s l o n b k v) (hb : Below wr.heap.size wr w') : BT w w' K g s l o n b k v := by
  have hl := h.lt
  obtain ⟨m, hd⟩ := h.bd
  exact ⟨⟨m, hd.below (hb.mono hl)⟩, h.own.keep hb, h.be.trans (hb.mono h.be.size), h.lo⟩
theorem BT.step {w wr : World} {K k : Nat} {v : Value} {R oo cc : Nat} (h : BT w wr K g s l o n b k v) (hT : TabB w w.heap.size R oo cc) (hg : A32 g) (hs : A32 s) (hl : A32 l) (ho : A32 o) (hn : A32 n) (hk : k ≤ 900000) :
    Calls Tryd.prog 10 #[.pointer (some ⟨K, 0, none⟩), .agg (stV 0 (g.getD k 0) (s.getD k 0) (l.getD k 0) (o.getD k 0) (n.getD k 0) (b.getD k false))] wr fun e w' => e = .returned (.tuple #[]) ∧ ∃ v', BT w w' K g s l o n b (k + 1) v' := by
  obtain ⟨m, hd⟩ := h.bd
  obtain ⟨lb, hlast, hlb, hc⟩ := last_bf (g := g) (s := s) (l := l) (o := o) (n := n) (b := b) k
  have hlen := bf_len (g := g) (s := s) (l := l) (o := o) (n := n) (b := b) k
  have hlo := h.lo
  have hKl := h.lt
  refine (ap10 wr K m v (bf g s l o n b k) lb _ _ _ _ _ _ _ _ _ _ _ _ 0 _ _ _ _ _ _ R oo cc hd h.own ((hT.below h.be).mono hlo) (by omega) hlb hlast (in33_sub hg k) (in33_sub hs k) (in33_sub hl k) (in33_sub ho k) (fun _ => in33_ln hn k) _ _ rfl rfl).mono ?_
  rintro e w' ⟨rfl, v', h1, h2, h3⟩
  refine ⟨rfl, v', ⟨m, ?_⟩, ?_, h.be.trans (h3.below w.heap.size hlo (by omega) (fun j hj => by have := h.own.lt j hj; omega)), hlo⟩
  · rw [fn_step k (by omega) lb hc] at h1
    rw [pv_succ, pv_succ, pv_succ, pv_succ, ln]
    exact h1
  · have : outM (bf g s l o n b k) lb (b.getD k false) (g.getD k 0 - pv g k) (s.getD k 0 - pv s k) (l.getD k 0 - pv l k) (o.getD k 0 - pv o k) (n.getD k 0 - ln n b k) = bf g s l o n b (k + 1) := by
      unfold outM
      rw [hc, seg4_is, bf, dl_is]
      simp [List.append_assoc]
    rw [this] at h2
    exact h2
end
set_option maxRecDepth 100000 in
set_option maxHeartbeats 4000000 in
theorem zb5 (w : World) (a0 a1 a2 a3 a4 a5 : Option Addr) (l0 c0 l1 c1 l2 c2 l3 c3 l4 c4 l5 c5 : Nat) (h0 : l0 ≤ maxLen) (h1 : l1 ≤ maxLen) (h2 : l2 ≤ maxLen) (h3 : l3 ≤ maxLen) (h4 : l4 ≤ maxLen) (h5 : l5 ≤ maxLen) :
    Calls Tryd.prog 5 #[.slice a0 l0 c0, .slice a1 l1 c1, .slice a2 l2 c2, .slice a3 l3 c3, .slice a4 l4 c4, .slice a5 l5 c5] w fun e w' => (∃ r, e = .returned (.bool r) ∧ (r = true → l0 + l1 + l2 + l3 + l4 + l5 ≤ 1048576)) ∧ w' = w := by
  unfold maxLen at h0 h1 h2 h3 h4 h5
  by_cases s0 : 1048576 < l0
  · go_enter Tryd.func5, Tryd.ntmps5
    go_wp2_with fail
    go_ret
    exact ⟨⟨false, rfl, fun h => (by cases h)⟩, rfl⟩
  by_cases d1 : 1048576 < l1
  · go_enter Tryd.func5, Tryd.ntmps5
    go_wp2_with fail
    go_ret
    exact ⟨⟨false, rfl, fun h => (by cases h)⟩, rfl⟩
  by_cases s1 : 1048576 < l0 + l1
  · go_enter Tryd.func5, Tryd.ntmps5
    go_wp2_with fail
    go_ret
    exact ⟨⟨false, rfl, fun h => (by cases h)⟩, rfl⟩
  by_cases d2 : 1048576 < l2
  · go_enter Tryd.func5, Tryd.ntmps5
    go_wp2_with fail
    go_ret
    exact ⟨⟨false, rfl, fun h => (by cases h)⟩, rfl⟩
  by_cases s2 : 1048576 < l0 + l1 + l2
  · go_enter Tryd.func5, Tryd.ntmps5
    go_wp2_with fail
    go_ret
    exact ⟨⟨false, rfl, fun h => (by cases h)⟩, rfl⟩
  by_cases d3 : 1048576 < l3
  · go_enter Tryd.func5, Tryd.ntmps5
    go_wp2_with fail
    go_ret
    exact ⟨⟨false, rfl, fun h => (by cases h)⟩, rfl⟩
  by_cases s3 : 1048576 < l0 + l1 + l2 + l3
  · go_enter Tryd.func5, Tryd.ntmps5
    go_wp2_with fail
    go_ret
    exact ⟨⟨false, rfl, fun h => (by cases h)⟩, rfl⟩
  by_cases d4 : 1048576 < l4
  · go_enter Tryd.func5, Tryd.ntmps5
    go_wp2_with fail
    go_ret
    exact ⟨⟨false, rfl, fun h => (by cases h)⟩, rfl⟩
  by_cases s4 : 1048576 < l0 + l1 + l2 + l3 + l4
  · go_enter Tryd.func5, Tryd.ntmps5
    go_wp2_with fail
    go_ret
    exact ⟨⟨false, rfl, fun h => (by cases h)⟩, rfl⟩
  by_cases d5 : 1048576 < l5
  · go_enter Tryd.func5, Tryd.ntmps5
    go_wp2_with fail
    go_ret
    exact ⟨⟨false, rfl, fun h => (by cases h)⟩, rfl⟩
  by_cases s5 : 1048576 < l0 + l1 + l2 + l3 + l4 + l5
  · go_enter Tryd.func5, Tryd.ntmps5
    go_wp2_with fail
    go_ret
    exact ⟨⟨false, rfl, fun h => (by cases h)⟩, rfl⟩
  go_enter Tryd.func5, Tryd.ntmps5
  go_wp2_with fail
  go_ret
  exact ⟨⟨true, rfl, fun _ => by omega⟩, rfl⟩
end Go.Proofs.YtlplikpjnocdfaaDoor
