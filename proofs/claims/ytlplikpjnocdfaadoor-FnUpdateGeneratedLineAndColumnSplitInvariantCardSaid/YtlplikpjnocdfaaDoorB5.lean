/-
  The buffer plainly: what the states write, and how it is read back. No Go in sight.
-/
import Derived.Test.YtlplikpjnocdfaaDoorB4
namespace Go.Proofs.YtlplikpjnocdfaaDoor
open Go.ChangeShapes Go.WideShapes Go.ChangeAt Go.RowKit
set_option linter.unusedVariables false
theorem flp_nat (n : Nat) (h : n < 4294967296) : flp (n : Int) = ((4294967295 - n : Nat) : Int) := by
  show IntKind.u32.wrap ((BitVec.ofInt 32 IntKind.u32.max ^^^ BitVec.ofInt 32 (n : Int)).toNat : Int) = _
  have e : BitVec.ofInt 32 IntKind.u32.max = BitVec.allOnes 32 := by decide
  rw [e, BitVec.allOnes_xor, BitVec.toNat_not, BitVec.ofInt_natCast, BitVec.toNat_ofNat, Nat.mod_eq_of_lt (by omega), IntKind.wrap_u32]
  omega
def encs : List Int → List Int
  | [] => []
  | d :: r => enc (zig d) ++ encs r
theorem encs_app : ∀ a b : List Int, encs (a ++ b) = encs a ++ encs b
  | [], b => rfl
  | d :: r, b => by simp [encs, encs_app r b]
def Okb (x : Int) : Prop := x ≠ 0 ∧ x ≠ 34 ∧ x ≠ 44 ∧ x ≠ 59
theorem chr_ok : ∀ d, d < 64 → Okb (chr d) := by unfold Okb; decide
theorem encF_ok : ∀ (f V : Nat), ∀ x ∈ encF f V, Okb x
  | 0, V => by intro x hx; simp [encF] at hx
  | f + 1, V => by
    intro x hx
    unfold encF at hx
    split at hx
    · next h => simp at hx; subst hx; exact chr_ok V (by omega)
    · next h =>
      rcases List.mem_cons.1 hx with rfl | h'
      · exact chr_ok _ (by omega)
      · exact encF_ok f _ x h'
theorem encs_ok : ∀ (ds : List Int), ∀ x ∈ encs ds, Okb x
  | [], x, hx => by simp [encs] at hx
  | d :: r, x, hx => by
    rcases List.mem_append.1 hx with h | h
    · exact encF_ok 7 _ x h
    · exact encs_ok r x h
theorem enc_pos (V : Nat) : 1 ≤ (enc V).length := encF_pos 6 V
theorem encs_le : ∀ ds : List Int, (encs ds).length ≤ 7 * ds.length
  | [] => by simp [encs]
  | d :: r => by have := encs_le r; have := enc_le (zig d); simp [encs]; omega
theorem getD_app (a b : List Int) (t : Nat) : (a ++ b).getD (a.length + t) 0 = b.getD t 0 := by
  simp only [List.getD, List.getElem?_append]
  rw [if_neg (by omega), Nat.add_sub_cancel_left]
theorem getD_app_lt (a b : List Int) (t : Nat) (h : t < a.length) : (a ++ b).getD t 0 = a.getD t 0 := by
  simp [List.getD, List.getElem?_append, h]
theorem take_succ_getD (ds : List Int) (j : Nat) (h : j < ds.length) : ds.take (j + 1) = ds.take j ++ [ds.getD j 0] := by
  rw [List.take_succ_eq_append_getElem h]
  simp [List.getD, h]
theorem encs_split (ds : List Int) (j : Nat) (h : j < ds.length) : encs ds = encs (ds.take j) ++ (enc (zig (ds.getD j 0)) ++ encs (ds.drop (j + 1))) := by
  have e : ds = ds.take j ++ (ds.getD j 0 :: ds.drop (j + 1)) := by
    have h1 := (List.take_append_drop (j + 1) ds).symm
    rw [take_succ_getD ds j h] at h1
    simpa using h1
  rw [e, encs_app]
  have : encs (ds.getD j 0 :: ds.drop (j + 1)) = enc (zig (ds.getD j 0)) ++ encs (ds.drop (j + 1)) := rfl
  rw [this]
  have e2 : (ds.take j ++ (ds.getD j 0 :: ds.drop (j + 1))) = ds := e.symm
  rw [e2]
theorem sg_of (pre ds rest : List Int) (hin : ∀ j, j < ds.length → In33 (ds.getD j 0)) (h6 : ds.length ≤ 6) :
    Sg (pre ++ encs ds ++ rest) ds pre.length (pre.length + (encs ds).length) (fun j => pre.length + (encs (ds.take j)).length) := by
  refine ⟨by simp [encs], by simp, fun j hj => ?_, fun j hj t ht => ?_, fun j hj => ?_, by simp, hin, h6⟩
  · show pre.length + (encs (ds.take (j + 1))).length = _
    rw [take_succ_getD ds j hj, encs_app]
    simp [encs]; omega
  · show (pre ++ encs ds ++ rest).getD (pre.length + (encs (ds.take j)).length + t) 0 = _
    rw [List.append_assoc, show pre.length + (encs (ds.take j)).length + t = pre.length + ((encs (ds.take j)).length + t) by omega, getD_app, encs_split ds j hj, List.append_assoc, getD_app, List.append_assoc, getD_app_lt _ _ _ ht]
  · show pre.length + (encs (ds.take j)).length ≤ _
    have : encs ds = encs (ds.take j) ++ encs (ds.drop j) := by rw [← encs_app, List.take_append_drop]
    rw [this]; simp
/-- the number ahead -/
def pv (A : List Int) (k : Nat) : Int := if k = 0 then 0 else A.getD (k - 1) 0
theorem pv_succ (A : List Int) (k : Nat) : pv A (k + 1) = A.getD k 0 := by unfold pv; rw [if_neg (by omega)]; rfl
theorem pv_zero (A : List Int) : pv A 0 = 0 := rfl
section
variable (g s l o n : List Int) (b : List Bool)
/-- the last name that was there -/
def ln : Nat → Int
  | 0 => 0
  | k + 1 => if b.getD k false = true then n.getD k 0 else ln k
def d4 (k : Nat) : List Int := [g.getD k 0 - pv g k, s.getD k 0 - pv s k, l.getD k 0 - pv l k, o.getD k 0 - pv o k]
def dl (k : Nat) : List Int := d4 g s l o k ++ (if b.getD k false = true then [n.getD k 0 - ln n b k] else [])
def sep (k : Nat) : List Int := if k = 0 then [] else [44]
/-- what stands behind k states -/
def bf : Nat → List Int
  | 0 => []
  | k + 1 => bf k ++ sep k ++ encs (dl g s l o n b k)
/-- where the first name begins, or -1 -/
def fo : Nat → Int
  | 0 => -1
  | k + 1 => if b.getD k false = true ∧ fo k < 0 then (((bf g s l o n b k ++ sep k ++ encs (d4 g s l o k)).length : Nat) : Int) else fo k
end
section
variable {g s l o n : List Int} {b : List Bool}
theorem seg4_is (k : Nat) : seg4 (g.getD k 0 - pv g k) (s.getD k 0 - pv s k) (l.getD k 0 - pv l k) (o.getD k 0 - pv o k) = encs (d4 g s l o k) := by
  simp [seg4, d4, encs]
theorem dl_is (k : Nat) : encs (dl g s l o n b k) = encs (d4 g s l o k) ++ (if b.getD k false = true then enc (zig (n.getD k 0 - ln n b k)) else []) := by
  unfold dl
  rw [encs_app]
  split <;> simp [encs]
theorem dl_len (k : Nat) : (dl g s l o n b k).length = if b.getD k false = true then 5 else 4 := by
  unfold dl d4
  split <;> simp
theorem bf_pos (k : Nat) : bf g s l o n b (k + 1) ≠ [] := by
  have h1 := enc_pos (zig (g.getD k 0 - pv g k))
  intro h
  have h2 := congrArg List.length h
  rw [bf, dl_is] at h2
  simp only [List.length_append, d4, encs, List.length_nil] at h2
  omega
theorem bf_last (k : Nat) : ∃ ys lb, bf g s l o n b (k + 1) = ys ++ [lb] ∧ Okb lb := by
  have h1 := enc_pos (zig (g.getD k 0 - pv g k))
  have hne : encs (dl g s l o n b k) ≠ [] := by
    intro h
    have h2 := congrArg List.length h
    rw [dl_is] at h2
    simp only [List.length_append, d4, encs, List.length_nil] at h2
    omega
  refine ⟨bf g s l o n b k ++ sep k ++ (encs (dl g s l o n b k)).dropLast, (encs (dl g s l o n b k)).getLast hne, ?_, encs_ok _ _ (List.getLast_mem hne)⟩
  rw [bf, List.append_assoc (bf g s l o n b k ++ sep k), List.dropLast_concat_getLast hne]
theorem last_bf (k : Nat) : ∃ lb, ((bf g s l o n b k = [] ∧ lb = 0) ∨ ∃ ys, bf g s l o n b k = ys ++ [lb]) ∧ lb ≠ 34 ∧ cma lb = sep k := by
  cases k with
  | zero => exact ⟨0, Or.inl ⟨rfl, rfl⟩, by decide, rfl⟩
  | succ k =>
    obtain ⟨ys, lb, h, h0, h1, h2, h3⟩ := bf_last (g := g) (s := s) (l := l) (o := o) (n := n) (b := b) k
    exact ⟨lb, Or.inr ⟨ys, h⟩, h1, by rw [cmax lb h0 h3]; unfold sep; rw [if_neg (by omega)]⟩
theorem bf_len (k : Nat) : (bf g s l o n b k).length ≤ 36 * k := by
  induction k with
  | zero => simp [bf]
  | succ k ih =>
    have h1 := encs_le (dl g s l o n b k)
    have h2 : (dl g s l o n b k).length ≤ 5 := by rw [dl_len]; split <;> omega
    have h3 : (sep k).length ≤ 1 := by unfold sep; split <;> simp
    simp only [bf, List.length_append]
    omega
theorem bf_more (k : Nat) : ∀ m, ∃ rest, bf g s l o n b (k + 1 + m) = bf g s l o n b (k + 1) ++ rest ∧ (m = 0 → rest = []) ∧ (0 < m → ∃ r, rest = 44 :: r)
  | 0 => ⟨[], by simp, fun _ => rfl, fun h => by omega⟩
  | m + 1 => by
    obtain ⟨rest, h1, h2, h3⟩ := bf_more k m
    refine ⟨rest ++ (sep (k + 1 + m) ++ encs (dl g s l o n b (k + 1 + m))), ?_, fun h => by omega, fun _ => ?_⟩
    · rw [show k + 1 + (m + 1) = (k + 1 + m) + 1 by omega, bf, h1]
      simp [List.append_assoc]
    · rcases Nat.eq_zero_or_pos m with h | h
      · rw [h2 h]
        have : sep (k + 1 + m) = [44] := by unfold sep; rw [if_neg (by omega)]
        rw [this]; exact ⟨_, rfl⟩
      · obtain ⟨r, hr⟩ := h3 h
        rw [hr]; exact ⟨_, rfl⟩
theorem ln_in (hn : A32 n) (k : Nat) : -2147483648 ≤ ln n b k ∧ ln n b k ≤ 2147483647 := by
  induction k with
  | zero => simp [ln]
  | succ k ih =>
    rw [ln]
    split
    · exact hn k
    · exact ih
theorem pv_in {A : List Int} (h : A32 A) (k : Nat) : -2147483648 ≤ pv A k ∧ pv A k ≤ 2147483647 := by
  unfold pv
  split
  · omega
  · exact h _
theorem in33_sub {A : List Int} (h : A32 A) (k : Nat) : In33 (A.getD k 0 - pv A k) := by
  have h1 := h k; have h2 := pv_in h k
  unfold In33; omega
theorem in33_ln (hn : A32 n) (k : Nat) : In33 (n.getD k 0 - ln n b k) := by
  have h1 := hn k; have h2 := ln_in (b := b) hn k
  unfold In33; omega
theorem dl_in (hg : A32 g) (hs : A32 s) (hl : A32 l) (ho : A32 o) (hn : A32 n) (k : Nat) : ∀ j, j < (dl g s l o n b k).length → In33 ((dl g s l o n b k).getD j 0) := by
  intro j hj
  have hm : (dl g s l o n b k).getD j 0 ∈ dl g s l o n b k := by
    have : (dl g s l o n b k).getD j 0 = (dl g s l o n b k)[j] := by simp [List.getD, hj]
    rw [this]; exact List.getElem_mem hj
  have ha : ∀ x ∈ dl g s l o n b k, In33 x := by
    intro x hx
    unfold dl d4 at hx
    rcases List.mem_append.1 hx with h | h
    · simp at h
      rcases h with rfl | rfl | rfl | rfl
      · exact in33_sub hg k
      · exact in33_sub hs k
      · exact in33_sub hl k
      · exact in33_sub ho k
    · split at h
      · simp at h; subst h; exact in33_ln hn k
      · simp at h
  exact ha _ hm
/-- what the reader meets at state k of N -/
theorem bf_at (hg : A32 g) (hs : A32 s) (hl : A32 l) (ho : A32 o) (hn : A32 n) (k N : Nat) (hk : k < N) :
    ∃ P : Nat → Nat, Sg (bf g s l o n b N) (dl g s l o n b k) ((bf g s l o n b k).length + (sep k).length) (bf g s l o n b (k + 1)).length P ∧
      EndAt (bf g s l o n b N) ((bf g s l o n b k).length + (sep k).length) (bf g s l o n b (k + 1)).length ∧
      P 4 = (bf g s l o n b k ++ sep k ++ encs (d4 g s l o k)).length ∧
      (0 < k → (bf g s l o n b k).length < (bf g s l o n b N).length ∧ (bf g s l o n b N).getD (bf g s l o n b k).length 0 = 44) := by
  obtain ⟨rest, h1, h2, h3⟩ := bf_more (g := g) (s := s) (l := l) (o := o) (n := n) (b := b) k (N - (k + 1))
  rw [show k + 1 + (N - (k + 1)) = N by omega] at h1
  have e : bf g s l o n b N = (bf g s l o n b k ++ sep k) ++ encs (dl g s l o n b k) ++ rest := by rw [h1, bf]
  have el : (bf g s l o n b (k + 1)).length = (bf g s l o n b k ++ sep k).length + (encs (dl g s l o n b k)).length := by rw [bf, List.length_append]
  have hsg := sg_of (bf g s l o n b k ++ sep k) (dl g s l o n b k) rest (dl_in hg hs hl ho hn k) (by rw [dl_len]; split <;> omega)
  rw [← e, ← el] at hsg
  refine ⟨_, by simpa using hsg, ?_, ?_, fun hk0 => ?_⟩
  · rw [← List.length_append]
    refine ⟨by rw [el]; omega, by rw [e, el]; simp; omega, fun j hj1 hj2 => ?_, ?_⟩
    · have hm : (bf g s l o n b N).getD j 0 ∈ encs (dl g s l o n b k) := by
        obtain ⟨t, rfl⟩ : ∃ t, j = (bf g s l o n b k ++ sep k).length + t := ⟨j - (bf g s l o n b k ++ sep k).length, by omega⟩
        have ht : t < (encs (dl g s l o n b k)).length := by rw [el] at hj2; omega
        rw [e, List.append_assoc, getD_app, getD_app_lt _ _ _ ht]
        have : (encs (dl g s l o n b k)).getD t 0 = (encs (dl g s l o n b k))[t] := by simp [List.getD, ht]
        rw [this]; exact List.getElem_mem ht
      have := encs_ok _ _ hm
      exact ⟨this.2.2.1, this.2.2.2⟩
    · rcases Nat.eq_zero_or_pos (N - (k + 1)) with h | h
      · left; rw [e, el, h2 h]; simp; omega
      · right
        obtain ⟨r, hr⟩ := h3 h
        have : (bf g s l o n b N).getD ((bf g s l o n b (k + 1)).length + 0) 0 = 44 := by rw [h1, getD_app, hr]; rfl
        simpa using this
  · have : (dl g s l o n b k).take 4 = d4 g s l o k := by unfold dl d4; simp
    simp only [this, List.length_append]
  · have hs1 : sep k = [44] := by unfold sep; rw [if_neg (by omega)]
    rw [e, hs1, List.append_assoc, List.append_assoc]
    refine ⟨by simp, ?_⟩
    have := getD_app (bf g s l o n b k) ([44] ++ (encs (dl g s l o n b k) ++ rest)) 0
    simp only [Nat.add_zero] at this
    rw [this]; rfl
end
end Go.Proofs.YtlplikpjnocdfaaDoor
