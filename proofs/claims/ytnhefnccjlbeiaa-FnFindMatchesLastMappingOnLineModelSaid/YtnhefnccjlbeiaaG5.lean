/-
  FnFindMatchesLastMappingOnLineModel: the plain law of the sorted table, and the walk.
-/
import Derived.Test.YtnhefnccjlbeiaaG4
import Derived.Deep.QuietTactic
import Derived.BigQuiet
namespace Go.Proofs.Ytnhefnccjlbeiaa
open Go.ChangeShapes Go.WideShapes Go.ChangeAt Go.RowKit
set_option linter.unusedVariables false
def lex (p q : Int × Int) : Prop := p.1 < q.1 ∨ (p.1 = q.1 ∧ p.2 < q.2)
def at' (ps : List (Int × Int)) (k : Nat) : Int × Int := ps.getD k (0, 0)
/-- sorted up to k: no neighbour is less than the one before it -/
def SortedTo (ps : List (Int × Int)) (k : Nat) : Prop := ∀ j, 1 ≤ j → j < k → ¬ lex (at' ps j) (at' ps (j - 1))
theorem sorted_le {ps : List (Int × Int)} {k : Nat} (h : SortedTo ps k) {l c : Int} {i j : Nat} (hij : i ≤ j) (hj : j < k) (hle : le2 l c (at' ps j)) : le2 l c (at' ps i) := by
  induction j with
  | zero => obtain rfl : i = 0 := by omega
            exact hle
  | succ j ih =>
    by_cases e : i = j + 1
    · subst e; exact hle
    · refine ih (by omega) (by omega) ?_
      have := h (j + 1) (by omega) hj
      rw [Nat.add_sub_cancel] at this
      unfold lex at this
      unfold le2 at *
      omega
/-- the want: the last index with the line and a column at most c, below k; none: -1 -/
def wantTo (ps : List (Int × Int)) (l c : Int) : Nat → Int
  | 0 => -1
  | k + 1 => if (at' ps k).1 = l ∧ (at' ps k).2 ≤ c then (k : Int) else wantTo ps l c k
theorem want_hit {ps : List (Int × Int)} {l c : Int} {a n : Nat} (ha : a < n) (h1 : (at' ps a).1 = l ∧ (at' ps a).2 ≤ c) (h2 : ∀ j, a < j → j < n → ¬ ((at' ps j).1 = l ∧ (at' ps j).2 ≤ c)) : wantTo ps l c n = (a : Int) := by
  induction n with
  | zero => omega
  | succ n ih =>
    by_cases e : a = n
    · subst e; simp [wantTo, h1]
    · rw [wantTo, if_neg (h2 n (by omega) (by omega))]
      exact ih (by omega) (fun j h h' => h2 j h (by omega))
theorem want_none {ps : List (Int × Int)} {l c : Int} {n : Nat} (h2 : ∀ j, j < n → ¬ ((at' ps j).1 = l ∧ (at' ps j).2 ≤ c)) : wantTo ps l c n = -1 := by
  induction n with
  | zero => rfl
  | succ n ih => rw [wantTo, if_neg (h2 n (by omega))]; exact ih (fun j h => h2 j (by omega))
theorem want_all {ps : List (Int × Int)} {l c : Int} {a n : Nat} (hs : SortedTo ps n) (ha : a ≤ n) (hA : a = 0 ∨ le2 l c (at' ps (a - 1))) (hB : a = n ∨ ¬ le2 l c (at' ps a)) :
    (0 < a ∧ (at' ps (a - 1)).1 = l → wantTo ps l c n = ((a - 1 : Nat) : Int)) ∧ (¬ (0 < a ∧ (at' ps (a - 1)).1 = l) → wantTo ps l c n = -1) := by
  have hi : ∀ j, a ≤ j → j < n → ¬ ((at' ps j).1 = l ∧ (at' ps j).2 ≤ c) := by
    intro j hj hjn h
    have h1 : le2 l c (at' ps j) := Or.inr h
    have := sorted_le hs hj hjn h1
    rcases hB with h | h
    · omega
    · exact h this
  constructor
  · rintro ⟨h0, h1⟩
    refine want_hit (by omega) ⟨h1, ?_⟩ (fun j h => hi j (by omega))
    rcases hA with h | h | h
    · omega
    · omega
    · exact h.2
  · intro hn
    refine want_none (fun j hj h => ?_)
    by_cases haj : a ≤ j
    · exact hi j haj hj h
    · have hsl : ∀ i, j ≤ i → i < a → (at' ps i).1 ≥ l := by
        intro i hji hia
        induction i with
        | zero => obtain rfl : j = 0 := by omega
                  omega
        | succ i ih =>
          by_cases e : j = i + 1
          · subst e; omega
          · have h3 := ih (by omega) (by omega)
            have h4 := hs (i + 1) (by omega) (by omega)
            rw [Nat.add_sub_cancel] at h4
            unfold lex at h4
            omega
      have h5 := hsl (a - 1) (by omega) (by omega)
      rcases hA with h6 | h6 | h6
      · omega
      · omega
      · exact hn ⟨by omega, h6.1⟩
theorem grownby_drewN {a w : World} {row : Option Nat} (h : a.grownBy w row) (n : Nat) : a.grownBy (w.drewN n) row := ⟨h.os, h.tape, h.output, h.size, h.block⟩
set_option maxRecDepth 100000 in
theorem lexless_yes (w : World) (a b c d : Int) (h : lex (a, b) (c, d)) : Calls Try.prog 40 #[.int .i32 a, .int .i32 b, .int .i32 c, .int .i32 d] w fun e w' => e = .returned (.bool true) ∧ w' = w := by
  by_cases c1 : a < c
  · clear h
    go_enter Try.func40, Try.ntmps40
    go_wp2
    go_ret
    exact ⟨rfl, rfl⟩
  · have h2 : a = c ∧ b < d := by unfold lex at h; dsimp only at h; omega
    clear h
    obtain ⟨h2, h3⟩ := h2
    go_enter Try.func40, Try.ntmps40
    go_wp2
    go_ret
    exact ⟨rfl, rfl⟩
set_option maxRecDepth 100000 in
theorem lexless_no (w : World) (a b c d : Int) (h : ¬ lex (a, b) (c, d)) : Calls Try.prog 40 #[.int .i32 a, .int .i32 b, .int .i32 c, .int .i32 d] w fun e w' => e = .returned (.bool false) ∧ w' = w := by
  have c1 : ¬ a < c := by unfold lex at h; dsimp only at h; omega
  by_cases c2 : a = c
  · have c3 : ¬ b < d := by unfold lex at h; dsimp only at h; omega
    clear h
    go_enter Try.func40, Try.ntmps40
    go_wp2
    go_ret
    exact ⟨rfl, rfl⟩
  · clear h
    go_enter Try.func40, Try.ntmps40
    go_wp2
    go_ret
    exact ⟨rfl, rfl⟩
set_option maxRecDepth 100000 in
set_option maxHeartbeats 8000000 in
theorem FnFindMatchesLastMappingOnLineModel_walk (a0 : Option Addr) (len0 cap0 : Nat) (z0 : List Int) (a1 : Option Addr) (len1 cap1 : Nat) (z1 : List Int) (a2 : Int) (a3 : Int) (w : World) (w0 : IsRow .i32 w a0 len0 cap0 z0) (w1 : IsRow .i32 w a1 len1 cap1 z1) (w2 : (Lit.int .i32 a2).wf = true) (w3 : (Lit.int .i32 a3).wf = true) :
    Calls Try.prog 13 #[.slice a0 len0 cap0, .slice a1 len1 cap1, .int .i32 a2, .int .i32 a3] w fun e w' => e = .returned (.bool true) ∧ Below w.heap.size w w' := by
  have b0 : len0 ≤ 9223372036854775807 := by rcases w0 with ⟨_, rfl, _⟩ | ⟨_, _, h1, h2, _⟩; omega; unfold maxLen at h2; omega
  have b1 : len1 ≤ 9223372036854775807 := by rcases w1 with ⟨_, rfl, _⟩ | ⟨_, _, h1, h2, _⟩; omega; unfold maxLen at h2; omega
  have W0 := Lib.hid w0; have W1 := Lib.hid w1
  clear w0 w1
  by_cases c0 : len0 ≤ 65536 ∧ len1 ≤ 65536
  · obtain ⟨c0, c1⟩ := c0
    go_enter Try.func13, Try.ntmps13
    go_wp2_with (first | (go_at_call 39; go_in))
    refine (copy_all w a0 len0 cap0 z0 c0 W0.out).mono ?_
    rintro e u1 ⟨d0, rfl, h1, g1⟩
    have H1 := Lib.hid h1; have G1 := Lib.hid g1
    have W2 := Lib.hid (W1.out.grown g1)
    clear h1 g1
    go_wp2_with fail
    refine (copy_all u1 a1 len1 cap1 z1 c1 W2.out).mono ?_
    rintro e u2 ⟨d1, rfl, h2, g2⟩
    have H2 := Lib.hid h2; have G2 := Lib.hid g2
    clear h2 g2
    go_wp2_with fail
    refine (maps_all u2 d0 d1 len0 len0 len1 len1 z0 z1 c0 c1 (H1.out.grown G2.out) H2.out).mono ?_
    rintro e u3 ⟨g, ps, rfl, hp, h3, g3⟩
    have H3 := Lib.hid h3
    have G3 := Lib.hid (grownby_trans G1.out (grownby_trans G2.out g3))
    clear h3 g3 H1 H2 G1 G2 W0 W1 W2
    generalize hN : ps.length = N at *
    go_wp2
    go_loopw [10] (fun i wr => ∃ k : Nat, 1 ≤ k ∧ (k ≤ N ∨ k = 1) ∧ i = .int .i64 k ∧ SortedTo ps k ∧ Maps wr g ps ∧ w.grownBy wr none) (fun i _ => N - (intOf i).toNat)
    case atStart => exact ⟨1, by omega, by omega, rfl, fun j h h' => by omega, H3.out, G3.out⟩
    case round =>
      obtain ⟨k, hk1, hk, rfl, hs, hm, hg⟩ := hrel
      have HS := Lib.hid hs; have HM := Lib.hid hm; have HG := Lib.hid hg
      clear hs hm hg H3 G3
      by_cases hkn : k < N
      · obtain ⟨k, rfl⟩ : ∃ t, k = t + 1 := ⟨k - 1, by omega⟩
        obtain ⟨q0, q1, -⟩ := HM.out.six (k := k) (by omega)
        obtain ⟨r0, r1, -⟩ := HM.out.six (k := k + 1) (by omega)
        have hss : ¬ lex (at' ps (k + 1)) (at' ps k) → SortedTo ps (k + 2) := fun hx j h1 h2 => by
          by_cases e : j = k + 1
          · subst e; exact hx
          · exact HS.out j h1 (by omega)
        unfold at' at hss
        generalize ps.getD (k + 1) (0, 0) = x at *
        generalize ps.getD k (0, 0) = y at *
        obtain ⟨x1, x2⟩ := x
        obtain ⟨y1, y2⟩ := y
        dsimp only at q0 q1 r0 r1
        have HSS := Lib.hid hss
        clear hss
        by_cases hx : lex (x1, x2) (y1, y2)
        · have HX := Lib.hid hx
          clear hx
          go_wp2
          go_quiet ((go_at_call 40; refine Calls.quiet_of_same (lexless_yes _ _ _ _ _ HX.out)))
          go_wp2
          go_ret
          exact ⟨rfl, below_grown (grownby_drewN HG.out _)⟩
        · have HX := Lib.hid hx
          clear hx
          go_wp2
          go_quiet ((go_at_call 40; refine Calls.quiet_of_same (lexless_no _ _ _ _ _ HX.out)))
          go_wp2
          go_roundw
          case rel => exact ⟨k + 2, by omega, by omega, by go_num, HSS.out HX.out, HM.out, grownby_drewN HG.out _⟩
          case measure => simp [intOf]; omega
      · have hS : SortedTo ps N := fun j h1 h2 => HS.out j h1 (by omega)
        have HSN := Lib.hid hS
        clear hS
        go_wp2_with fail
        refine (find_any _ wr.heap.size g N a2 a3 ps hp (HM.out.grown (grownby_alloc _ _)) hN ?hcell).mono ?_
        case hcell => exact sm_cell _ _ _ _ _
        rintro e u4 ⟨g4, a, ha, hA, hB, hE⟩
        have HM4 := Lib.hid ((HM.out.grown (grownby_alloc _ _)).grown g4)
        have HG4 := Lib.hid (grownby_trans HG.out (grownby_trans (grownby_alloc _ _) g4))
        obtain ⟨y1, y2⟩ := want_all (l := a2) (c := a3) HSN.out ha hA hB
        have hW : ∃ pt, e = .returned (.pointer pt) ∧ ((∃ b : Nat, b < N ∧ wantTo ps a2 a3 N = (b : Int) ∧ pt = some ⟨g, b * 6, none⟩) ∨ (wantTo ps a2 a3 N = -1 ∧ pt = none)) := by
          rcases hE with ⟨h0, h1, h2⟩ | ⟨h0, h1⟩
          · exact ⟨_, h2, Or.inl ⟨a - 1, by omega, y1 ⟨h0, h1⟩, rfl⟩⟩
          · exact ⟨_, h1, Or.inr ⟨y2 h0, rfl⟩⟩
        clear g4 y1 y2 hA hB HM HG HS HSN hE ha
        obtain ⟨pt, rfl, hW⟩ := hW
        have HW := Lib.hid hW
        clear hW
        go_wp2
        go_loopw [13, 14] (fun f i wq => ∃ k : Nat, k ≤ N ∧ i = .int .i64 k ∧ f = .int .i64 (wantTo ps a2 a3 k) ∧ wq = u4) (fun _ i _ => N - (intOf i).toNat)
        case atStart => exact ⟨0, by omega, rfl, rfl, rfl⟩
        case round =>
          obtain ⟨j, hj, rfl, rfl, rfl⟩ := hrel
          by_cases hjn : j < N
          · obtain ⟨q0, q1, -⟩ := HM4.out.six (k := j) (by omega)
            have hst : wantTo ps a2 a3 (j + 1) = if (at' ps j).1 = a2 ∧ (at' ps j).2 ≤ a3 then (j : Int) else wantTo ps a2 a3 j := rfl
            unfold at' at hst
            generalize ps.getD j (0, 0) = x at *
            obtain ⟨x1, x2⟩ := x
            dsimp only at q0 q1 hst
            have HST := Lib.hid hst
            clear hst
            by_cases e1 : x1 = a2
            · by_cases e2 : x2 ≤ a3
              · have E := Lib.hid (HST.out.trans (if_pos ⟨e1, e2⟩))
                clear HST
                go_wp2
                go_roundw
                case rel => exact ⟨j + 1, by omega, by go_num, by rw [E.out], by trivial⟩
                case measure => simp [intOf]; omega
              · have E := Lib.hid (HST.out.trans (if_neg (fun h => e2 h.2)))
                clear HST
                go_wp2
                go_roundw
                case rel => exact ⟨j + 1, by omega, by go_num, by rw [E.out], by trivial⟩
                case measure => simp [intOf]; omega
            · have E := Lib.hid (HST.out.trans (if_neg (fun h => e1 h.1)))
              clear HST
              go_wp2
              go_roundw
              case rel => exact ⟨j + 1, by omega, by go_num, by rw [E.out], by trivial⟩
              case measure => simp [intOf]; omega
          · obtain rfl : j = N := by omega
            rcases HW.out with ⟨b, hb, h1, rfl⟩ | ⟨h1, rfl⟩
            · clear HW
              rw [h1]
              clear h1
              go_wp2
              go_ret
              exact ⟨rfl, below_grown HG4.out⟩
            · clear HW
              rw [h1]
              clear h1
              go_wp2
              go_ret
              exact ⟨rfl, below_grown HG4.out⟩
  · by_cases c1 : len0 + len1 ≤ 1048576
    · have hor : (decide ((65536:Int) < (len0:Int)) || decide ((65536:Int) < (len1:Int))) = true := by simp; omega
      go_enter Try.func13, Try.ntmps13
      go_wp2_with (first | (go_at_call 39; go_in))
      all_goals (go_ret; exact ⟨rfl, Below.refl _ _⟩)
    · by_cases c2 : len0 ≤ 1048576
      · by_cases c3 : len1 ≤ 1048576
        · go_enter Try.func13, Try.ntmps13
          go_wp2_with (first | (go_at_call 39; go_in))
          go_ret
          exact ⟨rfl, Below.refl _ _⟩
        · go_enter Try.func13, Try.ntmps13
          go_wp2_with (first | (go_at_call 39; go_in))
          go_ret
          exact ⟨rfl, Below.refl _ _⟩
      · go_enter Try.func13, Try.ntmps13
        go_wp2_with (first | (go_at_call 39; go_in))
        go_ret
        exact ⟨rfl, Below.refl _ _⟩
end Go.Proofs.Ytnhefnccjlbeiaa
