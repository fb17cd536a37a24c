/-
  What the law FnAppendMappingEncodesDeltas reads: zzValueB3, zzVLQLenB3, zzStateOKB3 at 2^28, zzDecodeB3.
-/
import Derived.Test.YtbigamkmkmfdfaaDoorQ6
import Derived.Test.YtbigamkmkmfdfaaDoorM7
import Derived.Test.YtbigamkmkmfdfaaDoorK4
import Derived.Test.YtbigamkmkmfdfaaDoorL2
namespace Go.Proofs.YtbigamkmkmfdfaaDoor
open Go.ChangeShapes Go.WideShapes Go.ChangeAt Go.RowKit
set_option linter.unusedVariables false
set_option maxRecDepth 100000 in
set_option maxHeartbeats 2000000 in
theorem vb38 (x : Int) (h0 : 0 ≤ x) (h1 : x < 256) (w : World) : Calls Tryd.prog 38 #[.int .u8 x] w fun e w' => e = .returned (.int .i64 (dgt x)) ∧ w = w' := by
  by_cases a1 : 65 ≤ x ∧ x ≤ 90
  · have HR := Lib.hid (show dgt x = x - 65 by unfold dgt; rw [if_pos a1])
    obtain ⟨b1, b2⟩ := a1
    go_enter Tryd.func38, Tryd.ntmps38
    go_wp2_with fail
    go_ret
    exact ⟨ret_int (by rw [HR.out]), rfl⟩
  by_cases a2 : 97 ≤ x ∧ x ≤ 122
  · have HR := Lib.hid (show dgt x = x - 71 by unfold dgt; rw [if_neg a1, if_pos a2])
    obtain ⟨b1, b2⟩ := a2
    have b3 : ¬ x ≤ 90 := by omega
    have b4 : 65 ≤ x := by omega
    clear a1
    go_enter Tryd.func38, Tryd.ntmps38
    go_wp2_with fail
    go_ret
    exact ⟨ret_int (by rw [HR.out]; omega), rfl⟩
  by_cases a3 : 48 ≤ x ∧ x ≤ 57
  · have HR := Lib.hid (show dgt x = x + 4 by unfold dgt; rw [if_neg a1, if_neg a2, if_pos a3])
    obtain ⟨b1, b2⟩ := a3
    have b3 : ¬ 65 ≤ x := by omega
    have b4 : ¬ 97 ≤ x := by omega
    clear a1 a2
    go_enter Tryd.func38, Tryd.ntmps38
    go_wp2_with fail
    go_ret
    exact ⟨ret_int (by rw [HR.out]; omega), rfl⟩
  by_cases a4 : x = 43
  · subst a4
    clear a1 a2 a3
    go_enter Tryd.func38, Tryd.ntmps38
    go_wp2_with fail
    go_ret
    exact ⟨rfl, rfl⟩
  by_cases a5 : x = 47
  · subst a5
    clear a1 a2 a3
    go_enter Tryd.func38, Tryd.ntmps38
    go_wp2_with fail
    go_ret
    exact ⟨rfl, rfl⟩
  have HR := Lib.hid (show dgt x = -1 by unfold dgt; rw [if_neg a1, if_neg a2, if_neg a3, if_neg a4, if_neg a5])
  have d4 : (x == 43) = false := by simp [a4]
  have d5 : (x == 47) = false := by simp [a5]
  clear a4 a5
  by_cases c1 : 65 ≤ x <;> by_cases c2 : x ≤ 90 <;> by_cases c3 : 97 ≤ x <;> by_cases c4 : x ≤ 122 <;> by_cases c5 : 48 ≤ x <;> by_cases c6 : x ≤ 57 <;> (try (exfalso; omega)) <;>
   (clear a1 a2 a3
    go_enter Tryd.func38, Tryd.ntmps38
    go_wp2_with fail
    go_ret
    exact ⟨ret_int (by rw [HR.out]), rfl⟩)
/-- the coded fields of a state lie within 2^28 -/
def St28 (c s l o n : Int) : Prop := (-268435456 ≤ c ∧ c ≤ 268435456) ∧ (-268435456 ≤ s ∧ s ≤ 268435456) ∧ (-268435456 ≤ l ∧ l ≤ 268435456) ∧ (-268435456 ≤ o ∧ o ≤ 268435456) ∧ (-268435456 ≤ n ∧ n ≤ 268435456)
set_option maxRecDepth 100000 in
set_option maxHeartbeats 2000000 in
theorem ok17b (g c s l o n : Int) (h : Bool) (w : World) : Calls Tryd.prog 17 #[.agg (stV g c s l o n h), .int .i64 268435456] w fun e w' => BoolIf e (St28 c s l o n) ∧ Below w.heap.size w w' := by
  have HB := Lib.hid (fun ob => ((Below.refl w.heap.size w).alloc (Nat.le_refl _) ob : Below w.heap.size w (w.alloc ob)))
  by_cases a1 : c < -268435456
  · go_enter Tryd.func17, Tryd.ntmps17
    go_wp2_with fail
    go_ret
    exact ⟨BoolIf.no, HB.out _⟩
  by_cases a2 : 268435456 < c
  · go_enter Tryd.func17, Tryd.ntmps17
    go_wp2_with fail
    go_ret
    exact ⟨BoolIf.no, HB.out _⟩
  by_cases b1 : s < -268435456
  · go_enter Tryd.func17, Tryd.ntmps17
    go_wp2_with fail
    go_ret
    exact ⟨BoolIf.no, HB.out _⟩
  by_cases b2 : 268435456 < s
  · go_enter Tryd.func17, Tryd.ntmps17
    go_wp2_with fail
    go_ret
    exact ⟨BoolIf.no, HB.out _⟩
  by_cases d1 : l < -268435456
  · go_enter Tryd.func17, Tryd.ntmps17
    go_wp2_with fail
    go_ret
    exact ⟨BoolIf.no, HB.out _⟩
  by_cases d2 : 268435456 < l
  · go_enter Tryd.func17, Tryd.ntmps17
    go_wp2_with fail
    go_ret
    exact ⟨BoolIf.no, HB.out _⟩
  by_cases f1 : o < -268435456
  · go_enter Tryd.func17, Tryd.ntmps17
    go_wp2_with fail
    go_ret
    exact ⟨BoolIf.no, HB.out _⟩
  by_cases f2 : 268435456 < o
  · go_enter Tryd.func17, Tryd.ntmps17
    go_wp2_with fail
    go_ret
    exact ⟨BoolIf.no, HB.out _⟩
  by_cases g1 : n < -268435456
  · go_enter Tryd.func17, Tryd.ntmps17
    go_wp2_with fail
    go_ret
    exact ⟨BoolIf.no, HB.out _⟩
  by_cases g2 : 268435456 < n
  · go_enter Tryd.func17, Tryd.ntmps17
    go_wp2_with fail
    go_ret
    exact ⟨BoolIf.no, HB.out _⟩
  go_enter Tryd.func17, Tryd.ntmps17
  go_wp2_with fail
  go_ret
  exact ⟨BoolIf.yes (by unfold St28; omega), HB.out _⟩
theorem encF_last : ∀ (f V : Nat), V < 32 ^ (f + 1) → dgt ((encF (f + 1) V).getD ((encF (f + 1) V).length - 1) 0) < 32 := by
  intro f
  induction f with
  | zero =>
    intro V hV
    have h32 : V < 32 := by simpa using hV
    have e : encF 1 V = [chr V] := by unfold encF; rw [if_pos h32]
    rw [e]; simp [dgt_chr V (by omega)]; omega
  | succ f ih =>
    intro V hV
    by_cases h32 : V < 32
    · have e : encF (f + 1 + 1) V = [chr V] := by unfold encF; rw [if_pos h32]
      rw [e]; simp [dgt_chr V (by omega)]; omega
    · have e : encF (f + 1 + 1) V = chr (V % 32 + 32) :: encF (f + 1) (V / 32) := by rw [encF, if_neg h32]
      have hV2 : V / 32 < 32 ^ (f + 1) := by rw [Nat.pow_succ] at hV; omega
      have hp := encF_pos f (V / 32)
      have h := ih (V / 32) hV2
      rw [e, List.length_cons, show (encF (f + 1) (V / 32)).length + 1 - 1 = ((encF (f + 1) (V / 32)).length - 1) + 1 by omega, List.getD_cons_succ]
      exact h
/-- a whole number stands from k to e -/
structure Good (xs : List Int) (k e : Nat) : Prop where
  scan : Scan xs k e
  lt : k < e
  last : dgt (xs.getD (e - 1) 0) < 32
theorem Good.step {xs : List Int} {k e : Nat} (h : Good xs k e) : k < xs.length ∧ 0 ≤ dgt (xs.getD k 0) ∧ ((dgt (xs.getD k 0) < 32 ∧ e = k + 1) ∨ (32 ≤ dgt (xs.getD k 0) ∧ Good xs (k + 1) e)) := by
  obtain ⟨hs, hl, hd⟩ := h
  cases hs with
  | bad _ => omega
  | last _ h1 h2 h3 => exact ⟨h1, h2, Or.inl ⟨h3, rfl⟩⟩
  | more _ _ h1 h2 h3 =>
    refine ⟨h1, by omega, Or.inr ⟨h2, h3, ?_, hd⟩⟩
    have := h3.le
    rcases Nat.lt_or_ge (k + 1) e with h | h
    · exact h
    · exfalso
      have e1 : e = k + 1 := by omega
      rw [e1, Nat.add_sub_cancel] at hd
      omega
theorem good_back (x0 x2 : List Int) (a : Int) (h0 : -1073741824 ≤ a) (h1 : a ≤ 1073741824) : Good (x0 ++ enc (zig a) ++ x2) x0.length (x0.length + (enc (zig a)).length) := by
  have hz := zig_lt a h0 h1
  have hp : 1 ≤ (enc (zig a)).length := encF_pos 6 (zig a)
  refine ⟨(read_back x0 x2 a h0 h1).1, by omega, ?_⟩
  have hl := encF_last 6 (zig a) (by omega)
  have e : (x0 ++ enc (zig a) ++ x2).getD (x0.length + (enc (zig a)).length - 1) 0 = (encF 7 (zig a)).getD ((encF 7 (zig a)).length - 1) 0 := by
    have h2 : (enc (zig a)).length - 1 < (enc (zig a)).length := by omega
    rw [List.append_assoc, show x0.length + (enc (zig a)).length - 1 = x0.length + ((enc (zig a)).length - 1) by omega]
    simp only [List.getD, List.getElem?_append, enc] at *
    rw [if_neg (by omega), Nat.add_sub_cancel_left, if_pos h2]
  rw [e]; exact hl
/-- how many digits -/
theorem encF_more (f V : Nat) (h : ¬ V < 32) : (encF (f + 1) V).length = (encF f (V / 32)).length + 1 := by rw [encF, if_neg h, List.length_cons]
set_option maxRecDepth 100000 in
set_option maxHeartbeats 2000000 in
theorem vl30 (v : Int) (h0 : -1073741824 ≤ v) (h1 : v ≤ 1073741824) (w : World) : Calls Tryd.prog 30 #[.int .i64 v] w fun e w' => e = .returned (.int .i64 ((enc (zig v)).length : Nat)) ∧ w = w' := by
  obtain ⟨V, hV⟩ : ∃ V, zig v = V := ⟨_, rfl⟩
  have hz := zig_lt v h0 h1
  rw [hV] at hz
  have HL := Lib.hid (show (enc (zig v)).length = (encF 7 V).length by rw [hV]; rfl)
  have hv : (v < 0 ∧ -v * 2 + 1 = (V : Int)) ∨ (0 ≤ v ∧ v * 2 = (V : Int)) := by
    unfold zig at hV
    split at hV
    · left; omega
    · right; omega
  clear hV
  obtain ⟨L, hL⟩ : ∃ L, (encF 7 V).length = L := ⟨_, rfl⟩
  have HL2 := Lib.hid (HL.out.trans hL)
  have HL3 := Lib.hid hL
  clear hL HL
  rcases hv with ⟨hn, hu⟩ | ⟨hn, hu⟩
  · go_enter Tryd.func30, Tryd.ntmps30
    go_wp2_with fail
    go_loopw [3, 4] (fun u n w' => ∃ (U k f : Nat), u = .int .i64 U ∧ n = .int .i64 k ∧ w = w' ∧ U < 32 ^ (f + 1) ∧ k ≤ 8 ∧ 1 ≤ k ∧ f + k ≤ 7 ∧ Hid (k + (encF (f + 1) U).length = L + 1) ∧ U ≤ 4294967296) (fun u n w' => (intOf u).toNat)
    case atStart => exact ⟨V, 1, 6, by first | rfl | (simp; omega), rfl, rfl, by omega, by omega, by omega, by omega, Lib.hid (by rw [HL3.out]; omega), by omega⟩
    case round =>
      obtain ⟨U, k, f, rfl, rfl, rfl, hU, hk, hk1, hfk, HS, hUb⟩ := hrel
      by_cases h32 : U < 32
      · have HE := Lib.hid (show (encF (f + 1) U).length = 1 by rw [encF, if_pos h32]; rfl)
        go_wp2_with fail
        go_ret
        exact ⟨by rw [HL2.out]; have h1 := HS.out; have h2 := HE.out; exact congrArg Ending.returned (congrArg (Value.int IntKind.i64) (by omega)), rfl⟩
      · have HE := Lib.hid (encF_more f U h32)
        have hf1 : 1 ≤ f := by
          rcases Nat.eq_zero_or_pos f with h | h
          · subst h; simp at hU; omega
          · exact h
        obtain ⟨U2, hU2⟩ : ∃ U2, U / 32 = U2 := ⟨_, rfl⟩
        have g3 : (U : Int) / 32 = (U2 : Int) := by omega
        have hU3 : U2 < 32 ^ f := by rw [← hU2]; rw [Nat.pow_succ] at hU; omega
        have hlt : U2 < U := by omega
        rw [hU2] at HE
        clear hU2 hU
        go_wp2_with fail
        go_roundw
        case rel => exact ⟨U2, k + 1, f - 1, by trivial, by simp, by trivial, by rw [show f - 1 + 1 = f by omega]; exact hU3, by omega, by omega, by omega, Lib.hid (by have h1 := HS.out; have h2 := HE.out; rw [show f - 1 + 1 = f by omega]; omega), by omega⟩
        case measure => simp only [intOf]; omega
  · go_enter Tryd.func30, Tryd.ntmps30
    go_wp2_with fail
    go_loopw [3, 4] (fun u n w' => ∃ (U k f : Nat), u = .int .i64 U ∧ n = .int .i64 k ∧ w = w' ∧ U < 32 ^ (f + 1) ∧ k ≤ 8 ∧ 1 ≤ k ∧ f + k ≤ 7 ∧ Hid (k + (encF (f + 1) U).length = L + 1) ∧ U ≤ 4294967296) (fun u n w' => (intOf u).toNat)
    case atStart => exact ⟨V, 1, 6, by first | rfl | (simp; omega), rfl, rfl, by omega, by omega, by omega, by omega, Lib.hid (by rw [HL3.out]; omega), by omega⟩
    case round =>
      obtain ⟨U, k, f, rfl, rfl, rfl, hU, hk, hk1, hfk, HS, hUb⟩ := hrel
      by_cases h32 : U < 32
      · have HE := Lib.hid (show (encF (f + 1) U).length = 1 by rw [encF, if_pos h32]; rfl)
        go_wp2_with fail
        go_ret
        exact ⟨by rw [HL2.out]; have h1 := HS.out; have h2 := HE.out; exact congrArg Ending.returned (congrArg (Value.int IntKind.i64) (by omega)), rfl⟩
      · have HE := Lib.hid (encF_more f U h32)
        have hf1 : 1 ≤ f := by
          rcases Nat.eq_zero_or_pos f with h | h
          · subst h; simp at hU; omega
          · exact h
        obtain ⟨U2, hU2⟩ : ∃ U2, U / 32 = U2 := ⟨_, rfl⟩
        have g3 : (U : Int) / 32 = (U2 : Int) := by omega
        have hU3 : U2 < 32 ^ f := by rw [← hU2]; rw [Nat.pow_succ] at hU; omega
        have hlt : U2 < U := by omega
        rw [hU2] at HE
        clear hU2 hU
        go_wp2_with fail
        go_roundw
        case rel => exact ⟨U2, k + 1, f - 1, by trivial, by simp, by trivial, by rw [show f - 1 + 1 = f by omega]; exact hU3, by omega, by omega, by omega, Lib.hid (by have h1 := HS.out; have h2 := HE.out; rw [show f - 1 + 1 = f by omega]; omega), by omega⟩
        case measure => simp only [intOf]; omega
set_option maxRecDepth 100000 in
set_option maxHeartbeats 2000000 in
/-- zzDecodeB3 where a whole number stands -/
theorem zd29 (w : World) (p : Option Addr) (n c : Nat) (xs : List Int) (start e0 : Nat) (V : Int) (hB : Bytes w (.slice p n c) xs) (hx : ∀ x ∈ xs, 0 ≤ x ∧ x < 256) (hn : n ≤ 2097152) (R o cc : Nat) (hT : Tab w R o cc) (hG : Good xs start e0) (h7 : e0 ≤ start + 7) (hV : sgn (val xs start (e0 - start)) = V) :
    Calls Tryd.prog 29 #[.slice p n c, .int .i64 start] w fun e w' => e = .returned (.tuple #[.int .i64 V, .int .i64 e0, .bool true]) ∧ ∃ m, w' = w.drewN m := by
  obtain ⟨q, cq, eq, hcq, hi⟩ := id hB
  obtain ⟨rfl, rfl, rfl⟩ : q = p ∧ xs.length = n ∧ cq = c := by cases eq; exact ⟨rfl, rfl, rfl⟩
  have hlt := hG.step.1
  have hd16 := fun (W : World) (hB : Bytes W (.slice q xs.length cq) xs) (hT : Tab W R o cc) => dec16 W q xs.length cq xs start e0 hB hx hn R o cc hT hG.scan h7
  rw [hV] at hd16
  obtain ⟨N, hN⟩ : ∃ N, xs.length = N := ⟨_, rfl⟩
  rw [hN] at hcq hn hlt hi hB hd16
  rw [hN]
  have HD := Lib.hid hd16; have HBy := Lib.hid hB; have HI := Lib.hid hi; have HG := Lib.hid hG; have HT := Lib.hid hT; have HX := Lib.hid hx; have HN := Lib.hid hN
  clear hi hG hT hx hV hN eq hd16 hB
  have b0 : decide ((start : Int) < 0) = false := by simp
  have b1 : decide (N ≤ start) = false := by simp; omega
  go_enter Tryd.func29, Tryd.ntmps29
  go_wp2_with fail
  go_loopw [7] (fun j w' => ∃ (k m : Nat), j = .int .i64 k ∧ w' = w.drewN m ∧ start ≤ k ∧ k < start + 7 ∧ k < N ∧ Hid (Good xs k e0)) (fun j w' => N - (intOf j).toNat)
  case atStart => exact ⟨start, 0, rfl, rfl, by omega, by omega, hlt, HG⟩
  case round =>
    obtain ⟨k, m, rfl, rfl, hk1, hk7, hkN, HGk⟩ := hrel
    obtain ⟨a, rfl, hc⟩ := HI.out k hkN
    obtain ⟨_, hd0, hd⟩ := HGk.out.step
    obtain ⟨X, hX⟩ : ∃ X, xs.getD k 0 = X := ⟨_, rfl⟩
    rw [hX] at hc hd0 hd
    have hXb : 0 ≤ X ∧ X < 256 := by
      rw [← hX]; apply HX.out
      have hk : k < xs.length := by have := HN.out; omega
      simp [List.getD, hk]
    clear hX
    obtain ⟨D, hD⟩ : ∃ D : Nat, dgt X = D := ⟨(dgt X).toNat, by omega⟩
    have hD64 : D < 64 := by have := dgt_lt X; omega
    rw [hD] at hd hd0
    have HDX := Lib.hid hD
    clear hD
    rcases hd with ⟨hl, he⟩ | ⟨hl, hg⟩
    · have g4 : (bits .and .i64 (D : Int) 32 == 0) = true := by rw [and32 D hD64]; simp; omega
      have HE := Lib.hid he
      clear hl hd0 he
      go_wp2_with fail
      refine (vb38 X hXb.1 hXb.2 _).mono ?_
      rintro e w1 ⟨rfl, rfl⟩
      rw [HDX.out]
      dsimp only
      go_wp2_with fail
      refine (HD.out _ (HBy.out.keep (below_drewN _ _ _)) (HT.out.keep (below_drewN _ _ _))).mono ?_
      rintro e w1 ⟨rfl, m2, rfl⟩
      dsimp only
      go_wp2_with fail
      go_ret3
      exact ⟨rfl, _, rfl⟩
    · have g4 : (bits .and .i64 (D : Int) 32 == 0) = false := by rw [and32 D hD64]; simp; omega
      have HG2 := Lib.hid hg
      have hk2 : k + 1 < N := by have := hg.step.1; have := HN.out; omega
      have hk3 : k + 1 < e0 := hg.lt
      clear hg hl hd0
      go_wp2_with fail
      refine (vb38 X hXb.1 hXb.2 _).mono ?_
      rintro e w1 ⟨rfl, rfl⟩
      rw [HDX.out]
      dsimp only
      go_wp2_with fail
      go_roundw
      case rel => exact ⟨k + 1, m, by simp, by trivial, by omega, by omega, hk2, HG2⟩
      case measure => simp only [intOf]; omega
end Go.Proofs.YtbigamkmkmfdfaaDoor
