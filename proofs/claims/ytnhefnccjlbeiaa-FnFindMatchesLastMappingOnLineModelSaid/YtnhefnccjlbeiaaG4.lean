/-
  FnFindAnswerIsAMappingOnTheQueriedLine: the walk.
-/
import Derived.Test.YtnhefnccjlbeiaaG3
import Derived.LaidEqlPtr
namespace Go.Proofs.Ytnhefnccjlbeiaa
open Go.ChangeShapes Go.WideShapes Go.ChangeAt Go.RowKit
set_option linter.unusedVariables false
/-- What is known of a slice behind zzCopyInt32s. -/
def Cop (w : World) (a : Option Addr) (n : Nat) (zs : List Int) : Prop := n = 0 ∨ ∃ x, a = some x ∧ ∀ i, i < n → w.cell? (x.add i) = some (.int .i32 (zs.getD i 0))
theorem Cop.grown {w wr : World} {a : Option Addr} {n : Nat} {zs : List Int} (h : Cop w a n zs) (hg : w.grownBy wr none) : Cop wr a n zs := by
  rcases h with h | ⟨x, rfl, h⟩
  · exact Or.inl h
  · exact Or.inr ⟨x, rfl, fun i hi => grownby_cell hg (h i hi)⟩
theorem copy_all (w : World) (a : Option Addr) (n m : Nat) (zs : List Int) (hn : n ≤ 65536) (h : IsRow .i32 w a n m zs) : Calls Try.prog 34 #[.slice a n m] w fun e w' => ∃ b, e = .returned (.slice b n n) ∧ Cop w' b n zs ∧ w.grownBy w' none := by
  rcases h with ⟨rfl, rfl, rfl, rfl⟩ | ⟨x, rfl, h1, h2, h3, h4, h5⟩
  · refine (copy_nil w).mono ?_
    rintro e w' ⟨rfl, hg⟩
    exact ⟨none, rfl, Or.inl rfl, hg⟩
  · refine (copy_any w x n m zs hn (by omega) h4).mono ?_
    rintro e w' ⟨rfl, hr, hg⟩
    refine ⟨_, rfl, Or.inr ⟨_, rfl, fun i hi => ?_⟩, hg⟩
    have := hr.cell (j := i) (by simp; omega)
    have e1 : (zs.take n).getD i 0 = zs.getD i 0 := by simp [hi]
    rw [e1] at this
    by_cases h0 : i = 0
    · subst h0; simpa [Addr.add] using this
    · simpa [Addr.add, h0] using this
theorem IsRow.grown {w wr : World} {k : IntKind} {a : Option Addr} {n m : Nat} {zs : List Int} (h : IsRow k w a n m zs) (hg : w.grownBy wr none) : IsRow k wr a n m zs := by
  rcases h with h | ⟨x, h0, h1, h2, h3, h4, h5⟩
  · exact Or.inl h
  · exact Or.inr ⟨x, h0, h1, h2, h3, fun i hi => grownby_cell hg (h4 i hi), h5⟩
def pairs (ls cs : List Int) (p : Nat) : List (Int × Int) := filled ls cs p p
theorem pairs_len (ls cs : List Int) (p : Nat) : (pairs ls cs p).length = p := filled_len ..
theorem maps_all (w : World) (v u : Option Addr) (n m n1 m1 : Nat) (ls cs : List Int) (hn : n ≤ 65536) (hn1 : n1 ≤ 65536) (hv : Cop w v n ls) (hu : Cop w u n1 cs) :
    Calls Try.prog 35 #[.slice v n m, .slice u n1 m1] w fun e w' => ∃ (g : Nat) (ps : List (Int × Int)), e = .returned (.slice (some ⟨g, 0, none⟩) ps.length ps.length) ∧ ps.length ≤ 65536 ∧ Maps w' g ps ∧ w.grownBy w' none := by
  by_cases hlt : n1 < n
  · refine (maps_lt w v u n m n1 m1 ls cs hn hn1 hlt hv hu).mono ?_
    rintro e w' ⟨rfl, hm, hg⟩
    exact ⟨_, filled ls cs n1 n1, by rw [filled_len], by rw [filled_len]; exact hn1, hm, hg⟩
  · refine (maps_ge w v u n m n1 m1 ls cs hn hn1 (by omega) hv hu).mono ?_
    rintro e w' ⟨rfl, hm, hg⟩
    exact ⟨_, filled ls cs n n, by rw [filled_len], by rw [filled_len]; exact hn, hm, hg⟩
theorem below_grown {w wr : World} (h : w.grownBy wr none) : Below w.heap.size w wr := (Below.refl _ w).grown h (Nat.le_refl _) (by simp)
theorem grownby_trans {a b c : World} (h : a.grownBy b none) (h' : b.grownBy c none) : a.grownBy c none :=
  ⟨h'.os.trans h.os, h'.tape.trans h.tape, h'.output.trans h.output, Nat.le_trans h.size h'.size, fun k hk hn => (h'.block k (Nat.lt_of_lt_of_le hk h.size) hn).trans (h.block k hk hn)⟩
@[go_sem] theorem ptr_same (w : World) (a : Addr) : (binOp .eql 71 (.pointer (some a)) (.pointer (some a))).run Try.prog w = .ok (.bool true) w := by
  obtain ⟨i0, hi, _⟩ := Option.map_eq_some_iff.1 info_map
  exact run_eql_ptr_same w a Try.underlying71 hi
theorem ptr_other {w : World} {g : Nat} {ps : List (Int × Int)} (h : Maps w g ps) {a b : Nat} (hne : a ≠ b) : (binOp .eql 71 (.pointer (some ⟨g, a * 6, none⟩)) (.pointer (some ⟨g, b * 6, none⟩))).run Try.prog w = .ok (.bool false) w := by
  obtain ⟨i0, hi, hzz⟩ := Option.map_eq_some_iff.1 info_map
  simp only [Prod.mk.injEq] at hzz
  exact run_eql_ptr_other w Try.underlying71 hi (by simp [hzz.2.1]) (by intro h; injection h with _ h; omega) h.eq h.eq
theorem sm_cell (w : World) (a b c d : Value) : (w.alloc (.cells #[a, b, c, d] 70)).cell? ⟨w.heap.size, 2, none⟩ = some c := by
  have h : (w.alloc (.cells #[a, b, c, d] 70)).heap[w.heap.size]? = some (.cells #[a, b, c, d] 70) := heap_alloc_new w _
  simp only [World.cell?, h]
  rfl
set_option maxRecDepth 100000 in
theorem FnFindAnswerIsAMappingOnTheQueriedLine_walk (a0 : Option Addr) (len0 cap0 : Nat) (z0 : List Int) (a1 : Option Addr) (len1 cap1 : Nat) (z1 : List Int) (a2 : Int) (a3 : Int) (w : World) (w0 : IsRow .i32 w a0 len0 cap0 z0) (w1 : IsRow .i32 w a1 len1 cap1 z1) (w2 : (Lit.int .i32 a2).wf = true) (w3 : (Lit.int .i32 a3).wf = true) :
    Calls Try.prog 11 #[.slice a0 len0 cap0, .slice a1 len1 cap1, .int .i32 a2, .int .i32 a3] w fun e w' => e = .returned (.bool true) ∧ Below w.heap.size w w' := by
  have b0 : len0 ≤ 9223372036854775807 := by rcases w0 with ⟨_, rfl, _⟩ | ⟨_, _, h1, h2, _⟩; omega; unfold maxLen at h2; omega
  have b1 : len1 ≤ 9223372036854775807 := by rcases w1 with ⟨_, rfl, _⟩ | ⟨_, _, h1, h2, _⟩; omega; unfold maxLen at h2; omega
  have W0 := Lib.hid w0; have W1 := Lib.hid w1
  clear w0 w1
  by_cases c0 : len0 ≤ 65536 ∧ len1 ≤ 65536
  · obtain ⟨c0, c1⟩ := c0
    go_enter Try.func11, Try.ntmps11
    go_wp2_with (first | (go_at_call 33; go_in))
    refine (copy_all w a0 len0 cap0 z0 c0 W0.out).mono ?_
    rintro e u1 ⟨d0, rfl, h1, g1⟩
    have H1 := Lib.hid h1; have G1 := Lib.hid g1
    have W2 := Lib.hid (W1.out.grown g1)
    clear h1 g1
    go_wp2_with fail
    refine (copy_all u1 a1 len1 cap1 z1 c1 W2.out).mono ?_
    rintro e u2 ⟨d1, rfl, h2, g2⟩
    have H2 := Lib.hid h2; have G2 := Lib.hid g2
    clear h2 g2
    go_wp2_with fail
    refine (maps_all u2 d0 d1 len0 len0 len1 len1 z0 z1 c0 c1 (H1.out.grown G2.out) H2.out).mono ?_
    rintro e u3 ⟨g, ps, rfl, hp, h3, g3⟩
    have H3 := Lib.hid h3; have G3 := Lib.hid g3
    have hgl : g < u3.heap.size := (Array.getElem?_eq_some_iff.1 h3.eq).1
    clear h3 g3
    go_wp2_with fail
    refine (find_any _ u3.heap.size g ps.length a2 a3 ps hp (H3.out.grown (grownby_alloc _ _)) rfl ?hcell).mono ?_
    case hcell => exact sm_cell _ _ _ _ _
    rintro e u4 ⟨g4, a, ha, hA, hB, hE⟩
    have HM := Lib.hid ((H3.out.grown (grownby_alloc _ _)).grown g4)
    have HG := Lib.hid (grownby_trans G1.out (grownby_trans G2.out (grownby_trans G3.out (grownby_trans (grownby_alloc _ _) g4))))
    clear g4 H1 H2 H3 G1 G2 G3 W0 W1 W2 hB
    generalize hN : ps.length = N at *
    rcases hE with ⟨ha0, hl, rfl⟩ | ⟨_, rfl⟩
    · have hle : (ps.getD (a - 1) (0, 0)).2 ≤ a3 := by
        rcases hA with h | h | h
        · omega
        · omega
        · exact h.2
      obtain ⟨q0, q1, -⟩ := HM.out.six (k := a - 1) (by omega)
      rw [hl] at q0
      generalize hQ : (ps.getD (a - 1) (0, 0)).2 = Q at *
      have HL := Lib.hid hle
      clear hA hl hQ
      have hN0 : 0 < N := by omega
      obtain ⟨a, rfl⟩ : ∃ t, a = t + 1 := ⟨a - 1, by omega⟩
      simp only [Nat.add_sub_cancel] at *
      go_wp2
      go_loopw [12, 13] (fun f i wr => ∃ k : Nat, k ≤ N ∧ i = .int .i64 k ∧ f = .bool (decide (a < k)) ∧ wr = u4) (fun _ i _ => N - (intOf i).toNat)
      case atStart => exact ⟨0, by omega, rfl, by simp, rfl⟩
      case round =>
        obtain ⟨k, hk, rfl, rfl, rfl⟩ := hrel
        by_cases hkn : k < N
        · by_cases hka : a = k
          · subst hka
            go_wp2
            go_roundw
            case rel => exact ⟨a + 1, by omega, by go_num, by simp, by trivial⟩
            case measure => simp [intOf]; omega
          · have hne := ptr_other HM.out hka
            go_wp2
            go_roundw
            case rel => exact ⟨k + 1, by omega, by go_num, by simp; omega, by trivial⟩
            case measure => simp [intOf]; omega
        · obtain rfl : k = N := by omega
          have hak : a < k := by omega
          have hle := HL.out
          go_wp2
          go_ret
          exact ⟨rfl, below_grown HG.out⟩
    · by_cases hN0 : N = 0
      · subst hN0
        go_wp2
        go_ret
        exact ⟨rfl, below_grown HG.out⟩
      · go_wp2
        go_ret
        exact ⟨rfl, below_grown HG.out⟩
  · by_cases c1 : len0 + len1 ≤ 1048576
    · have hor : (decide ((65536:Int) < (len0:Int)) || decide ((65536:Int) < (len1:Int))) = true := by simp; omega
      go_enter Try.func11, Try.ntmps11
      go_wp2_with (first | (go_at_call 33; go_in))
      all_goals (go_ret; exact ⟨rfl, Below.refl _ _⟩)
    · by_cases c2 : len0 ≤ 1048576
      · by_cases c3 : len1 ≤ 1048576
        · go_enter Try.func11, Try.ntmps11
          go_wp2_with (first | (go_at_call 33; go_in))
          go_ret
          exact ⟨rfl, Below.refl _ _⟩
        · go_enter Try.func11, Try.ntmps11
          go_wp2_with (first | (go_at_call 33; go_in))
          go_ret
          exact ⟨rfl, Below.refl _ _⟩
      · go_enter Try.func11, Try.ntmps11
        go_wp2_with (first | (go_at_call 33; go_in))
        go_ret
        exact ⟨rfl, Below.refl _ _⟩
end Go.Proofs.Ytnhefnccjlbeiaa
