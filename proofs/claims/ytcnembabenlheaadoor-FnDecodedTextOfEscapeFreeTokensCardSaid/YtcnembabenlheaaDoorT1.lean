/-
  zzAppendUTF16, zzEqualUnits, zzHasByte.
-/
import Derived.Test.YtcnembabenlheaaDoorZ1
namespace Go.Proofs.YtcnembabenlheaaDoor
open Go.ChangeShapes Go.WideShapes Go.ChangeAt Go.RowKit
open Go.Lib (decodeN decode_at decodeGo)
set_option linter.unusedVariables false
theorem below_alloc1 (w : World) (B : Nat) (hB : B ≤ w.heap.size) (o : Obj) : Below B w (w.alloc o) := ((Below.refl w.heap.size w).alloc (Nat.le_refl _) o).mono hB
theorem cell_one (w : World) (v : Value) (t : TypeId) : ∀ j u, [v][j]? = some u → (w.alloc (.cells #[v] t)).cell? ((⟨w.heap.size, 0, none⟩ : Addr).add j) = some u := by
  intro j u h
  have hj : j = 0 := by have := (List.getElem?_eq_some_iff.1 h).1; simp at this; exact this
  subst hj
  have hv : v = u := by simpa using h
  subst hv
  rw [Addr.add_lit]
  have hb := heap_alloc_new w (.cells #[v] t)
  simp only [World.cell?, Nat.zero_add]
  rw [hb]
  rfl
theorem OwnU.lt {w : World} {B : Nat} {v : Value} {xs : List Int} (h : OwnU w B v xs) : ∀ k, v.ownBlock = some k → B ≤ k := fun k hk => (World.ownsRow.lt h k hk).1
theorem own_app {w : World} {B : Nat} {v : Value} {xs : List Int} {b : Int} (h : w.ownsRow B 30 1 v (xs.length + 1) (cellsU xs ++ [.int .u16 b])) : OwnU w B v (xs ++ [b]) := by
  unfold OwnU
  have e1 : (xs ++ [b]).length = xs.length + 1 := by simp
  have e2 : cellsU (xs ++ [b]) = cellsU xs ++ [.int .u16 b] := by simp [cellsU]
  rw [e1, e2]; exact h
set_option maxRecDepth 100000 in
set_option maxHeartbeats 4000000 in
theorem ap15_1 (w : World) (B : Nat) (v : Value) (xs : List Int) (r : Nat) (hr : r < 65536) (hO : OwnU w B v xs) (hB : B ≤ w.heap.size) (hxs : xs.length ≤ 4194304) :
    Calls Tryd.prog 15 #[v, .int .i32 r] w fun e w' => ∃ v', e = .returned v' ∧ OwnU w' B v' (xs ++ [(r : Int)]) ∧ Below B w w' := by
  obtain ⟨i0, hin, hz0, hz1, hz2⟩ := info_parts infoU
  have HO := Lib.hid hO; have HB := Lib.hid hB
  have HOA := Lib.hid (World.ownsRow.alloc hO (.cells #[.int .u16 r] 30))
  have hr1 : (r : Int) < 65536 := by omega
  have hr0 : (0 : Int) ≤ (r : Int) := by omega
  have hw : IntKind.u16.wrap (r : Int) = (r : Int) := by rw [IntKind.wrap_u16]; omega
  clear hO hB hr
  go_enter Tryd.func15, Tryd.ntmps15

  go_wp2_with (at_builtin; refine wpList_append_own _ rfl _ _ 29 rfl B 30 i0 (.int .u16 0) 1 2 Tryd.underlying29 hin hz0 hz1 hz2 rfl (by decide) v xs.length (cellsU xs) rfl HOA.out ⟨w.heap.size, 0, none⟩ 1 1 [.int .u16 r] rfl rfl (cell_one _ _ _) (by intro u hu; simp at hu; subst hu; rfl) (by unfold maxLen; omega) (by omega) (by have := HB.out; simp; omega) ?_; intro v1 w1 hown1 hg1 hnil1; have HO1 := Lib.hid hown1; have HG1 := Lib.hid hg1; clear hown1 hg1 hnil1)
  go_ret
  exact ⟨_, rfl, own_app HO1.out, (below_alloc1 w B HB.out _).trans (below_grown HG1.out B (by have := HB.out; simp; omega) HO.out.lt)⟩
set_option maxRecDepth 100000 in
set_option maxHeartbeats 4000000 in
theorem ap15_2 (w : World) (B : Nat) (v : Value) (xs : List Int) (r : Nat) (hr : 65536 ≤ r) (hr2 : r ≤ 1114111) (hO : OwnU w B v xs) (hB : B ≤ w.heap.size) (hxs : xs.length ≤ 4194304) :
    Calls Tryd.prog 15 #[v, .int .i32 r] w fun e w' => ∃ v', e = .returned v' ∧ OwnU w' B v' (xs ++ u16 r) ∧ Below B w w' := by
  obtain ⟨i0, hin, hz0, hz1, hz2⟩ := info_parts infoU
  obtain ⟨d, hd⟩ : ∃ d, r - 65536 = d := ⟨_, rfl⟩
  have hd1 : (r : Int) - 65536 = (d : Int) := by omega
  have hdl : d ≤ 1048575 := by omega
  obtain ⟨m, hm⟩ : ∃ m, d % 1024 = m := ⟨_, rfl⟩
  have hml : m < 1024 := by omega
  have hbm : bits .and .i32 (d : Int) 1023 = (m : Int) := by rw [show (1023 : Int) = ((1023 : Nat) : Int) from rfl, i32_mask d 10 1023 (by omega) rfl (by omega), ← hm]
  obtain ⟨q, hq⟩ : ∃ q, d / 1024 = q := ⟨_, rfl⟩
  have hql : q < 1024 := by omega
  have HU := Lib.hid (show u16 r = [(55296 : Int) + (q : Int), (56320 : Int) + (m : Int)] by
    unfold u16; rw [if_neg (by omega), hd, hm, hq]; simp)
  have HO := Lib.hid hO; have HB := Lib.hid hB
  obtain ⟨R, hR⟩ : ∃ R : Int, (r : Int) = R := ⟨_, rfl⟩
  have r1 : decide (R < 65536) = false := by simp; omega
  have r2 : IntKind.i32.wrap (R - 65536) = (d : Int) := by rw [IntKind.wrap_i32]; omega
  rw [hR]
  clear hR hd1
  have d2 : (d : Int) ≤ 1048575 := by omega
  have q1 : (d : Int) / 1024 = (q : Int) := by omega
  have q2 : (q : Int) < 1024 := by omega
  have m2 : (m : Int) < 1024 := by omega
  have w1 : IntKind.u16.wrap (55296 + (q : Int)) = 55296 + (q : Int) := by rw [IntKind.wrap_u16]; omega
  have w2 : IntKind.u16.wrap (56320 + (m : Int)) = 56320 + (m : Int) := by rw [IntKind.wrap_u16]; omega
  have HOA := Lib.hid (World.ownsRow.alloc HO.out (.cells #[.int .u16 (55296 + (q : Int))] 30))
  clear hO hB hr hr2 hd hdl hm hml hq hql
  go_enter Tryd.func15, Tryd.ntmps15
  go_wp2_with (first | (at_builtin; refine wpList_append_own _ rfl _ _ 29 rfl B 30 i0 (.int .u16 0) 1 2 Tryd.underlying29 hin hz0 hz1 hz2 rfl (by decide) v xs.length (cellsU xs) rfl HOA.out ⟨w.heap.size, 0, none⟩ 1 1 [.int .u16 (55296 + (q : Int))] rfl rfl (cell_one _ _ _) (by intro u hu; simp at hu; subst hu; rfl) (by unfold maxLen; omega) (by omega) (by have := HB.out; simp; omega) ?_; intro v1 wA hown1 hg1 hnil1; have OA1 := Lib.hid (own_app hown1); have KA1 := Lib.hid ((below_alloc1 w B HB.out _).trans (below_grown hg1 B (by have := HB.out; simp; omega) HO.out.lt)); clear hown1 hg1 hnil1; have HOB := Lib.hid (World.ownsRow.alloc OA1.out (.cells #[.int .u16 (56320 + (m : Int))] 30)); have HBA := Lib.hid (Nat.le_trans HB.out KA1.out.size); clear HOA) | (at_builtin; refine wpList_append_own _ rfl _ _ 29 rfl B 30 i0 (.int .u16 0) 1 2 Tryd.underlying29 hin hz0 hz1 hz2 rfl (by decide) v1 (xs ++ [55296 + (q : Int)]).length (cellsU (xs ++ [55296 + (q : Int)])) rfl HOB.out ⟨wA.heap.size, 0, none⟩ 1 1 [.int .u16 (56320 + (m : Int))] rfl rfl (cell_one _ _ _) (by intro u hu; simp at hu; subst hu; rfl) (by unfold maxLen; simp; omega) (by simp; omega) (by have := HBA.out; simp; omega) ?_; intro v2 wB hown1 hg1 hnil1; have OA2 := Lib.hid (own_app hown1); have KA2 := Lib.hid (KA1.out.trans ((below_alloc1 wA B HBA.out _).trans (below_grown hg1 B (by have := HBA.out; simp; omega) OA1.out.lt))); clear hown1 hg1 hnil1))
  go_ret
  refine ⟨_, rfl, ?_, KA2.out⟩
  have := OA2.out
  rw [HU.out]
  simpa using this
theorem ap15 (w : World) (B : Nat) (v : Value) (xs : List Int) (r : Nat) (hr2 : r ≤ 1114111) (hO : OwnU w B v xs) (hB : B ≤ w.heap.size) (hxs : xs.length ≤ 4194304) :
    Calls Tryd.prog 15 #[v, .int .i32 r] w fun e w' => ∃ v', e = .returned v' ∧ OwnU w' B v' (xs ++ u16 r) ∧ Below B w w' := by
  by_cases h : r < 65536
  · have e : u16 r = [(r : Int)] := by unfold u16; rw [if_pos h]
    rw [e]
    exact ap15_1 w B v xs r h hO hB hxs
  · exact ap15_2 w B v xs r (by omega) hr2 hO hB hxs
set_option maxRecDepth 100000 in
set_option maxHeartbeats 1000000 in
/-- zzEqualUnits: the same units? -/
theorem eq17 (w : World) (v1 v2 : Value) (xs ys : List Int) (h1 : Units w v1 xs) (h2 : Units w v2 ys) (l1 : xs.length ≤ 4194304) (l2 : ys.length ≤ 4194304) :
    Calls Tryd.prog 17 #[v1, v2] w fun e w' => (∃ b, e = .returned (.bool b) ∧ (b = true ↔ xs = ys)) ∧ ∃ n, w' = w.drewN n := by
  obtain ⟨p1, c1, rfl, hc1, hi1⟩ := h1
  obtain ⟨p2, c2, rfl, hc2, hi2⟩ := h2
  have H1 := Lib.hid hi1; have H2 := Lib.hid hi2
  clear hi1 hi2
  by_cases hl : xs.length = ys.length
  · obtain ⟨n, hn⟩ : ∃ n, xs.length = n := ⟨_, rfl⟩
    have HN := Lib.hid hn; have HM := Lib.hid (hl.symm.trans hn)
    rw [HN.out, HM.out]
    rw [HN.out] at l1 hc1
    rw [HM.out] at hc2
    clear hl hn l2
    go_enter Tryd.func17, Tryd.ntmps17
    go_wp2_with fail
    go_loopw [5] (fun a w' => ∃ i m : Nat, a = .int .i64 i ∧ w' = w.drewN m ∧ i ≤ n ∧ ∀ k, k < i → xs.getD k 0 = ys.getD k 0) (fun a w' => n - (intOf a).toNat)
    case atStart => exact ⟨0, 0, rfl, rfl, by omega, fun k hk => absurd hk (by omega)⟩
    case round =>
      obtain ⟨i, m, rfl, rfl, hi, hall⟩ := hrel
      have HA := Lib.hid hall; clear hall
      by_cases hlt : i < n
      · obtain ⟨x1, rfl, e1⟩ := H1.out i (by have := HN.out; omega)
        obtain ⟨x2, rfl, e2⟩ := H2.out i (by have := HM.out; omega)
        obtain ⟨A, hA⟩ : ∃ A, xs.getD i 0 = A := ⟨_, rfl⟩
        obtain ⟨B, hB⟩ : ∃ B, ys.getD i 0 = B := ⟨_, rfl⟩
        rw [hA] at e1
        rw [hB] at e2
        have HAi := Lib.hid hA; have HBi := Lib.hid hB
        clear hA hB
        by_cases he : A = B
        · subst he
          go_wp2_with fail
          go_quiet (fail)
          go_wp2_with fail
          go_roundw
          case rel =>
            refine ⟨i + 1, _, by simp, rfl, by omega, fun k hk => ?_⟩
            by_cases hki : k < i
            · exact HA.out k hki
            · obtain rfl : k = i := by omega
              rw [HAi.out, HBi.out]
          case measure => simp only [intOf]; omega
        · have d : (A != B) = true := by simp [he]
          have HE := Lib.hid he; clear he
          go_wp2_with fail
          go_quiet (fail)
          go_wp2_with fail
          go_ret
          refine ⟨⟨false, rfl, fun h => (by cases h), fun h => ?_⟩, _, World.drewN_drewN _ _ _⟩
          exact absurd (by rw [← HAi.out, ← HBi.out, h]) HE.out
      · obtain rfl : i = n := by omega
        go_wp2_with fail
        go_ret
        refine ⟨⟨true, rfl, fun _ => ?_, fun _ => rfl⟩, _, rfl⟩
        apply List.ext_getElem (HN.out.trans HM.out.symm)
        intro k hk1 hk2
        have := HA.out k (by have := HN.out; omega)
        simpa [List.getD, hk1, hk2] using this
  · have d : ((xs.length : Int) != (ys.length : Int)) = true := by simp; omega
    have HE := Lib.hid hl; clear hl
    go_enter Tryd.func17, Tryd.ntmps17
    go_wp2_with fail
    go_ret
    exact ⟨⟨false, rfl, fun h => (by cases h), fun h => absurd (by rw [h]) HE.out⟩, 0, rfl⟩
end Go.Proofs.YtcnembabenlheaaDoor
