/-
  zzRuneBoundary, zzEqBytes.
-/
import Derived.Test.YtlplikpjnocdfaaDoorC3
import Derived.Test.YtlplikpjnocdfaaDoorC4
import Derived.BigQuiet
namespace Go.Proofs.YtlplikpjnocdfaaDoor
open Go.ChangeShapes Go.WideShapes Go.ChangeAt Go.RowKit
set_option linter.unusedVariables false
set_option maxRecDepth 100000 in
set_option maxHeartbeats 2000000 in
/-- zzRuneBoundary: if it says yes, k is a place where a character begins -/
theorem rb20 (w : World) (v : Value) (xs : List Int) (k : Nat) (h : At8 w v xs) (hl : xs.length ≤ 1048576) (hk : k ≤ xs.length) :
    Calls Tryd.prog 20 #[v, .int .i64 k] w fun e w' => (∃ b, e = .returned (.bool b) ∧ (b = true → Bnd xs k 0)) ∧ ∃ n, w' = w.drewN n := by
  have HH := Lib.hid h
  have HV := Lib.hid (fun (W : World) (i : Nat) (hW : ∃ n, W = w.drewN n) (hi : i < xs.length) => zr32 W v xs i (h.keep (by obtain ⟨n, rfl⟩ := hW; exact below_drewN _ _)) hl hi)
  obtain ⟨p, c, hv, _, _⟩ := h.cell
  obtain ⟨n, hn⟩ : ∃ n, xs.length = n := ⟨_, rfl⟩
  have HN := Lib.hid hn
  rw [hn] at HV hv hl hk
  subst hv
  clear h hn HH
  go_enter Tryd.func20, Tryd.ntmps20
  go_wp2_with fail
  go_loopw [5] (fun v5 wx => ∃ i m : Nat, v5 = .int .i64 i ∧ wx = w.drewN m ∧ i ≤ 1048580 ∧ Hid (Bnd xs k i → Bnd xs k 0)) (fun v5 _ => k - (intOf v5).toNat)
  case atStart => exact ⟨0, 0, rfl, rfl, by omega, Lib.hid id⟩
  case round =>
    obtain ⟨i, mm, rfl, rfl, hib, HB⟩ := hrel
    by_cases hik : i < k
    · have hw := dz_w xs i
      have hr := HV.out (w.drewN mm) i ⟨mm, rfl⟩ (by omega)
      unfold RuneW at hr
      obtain ⟨d, hd⟩ : ∃ d, (dz xs i).2 = d := ⟨_, rfl⟩
      have HBN := Lib.hid (show Bnd xs k (i + d) → Bnd xs k 0 from fun hb => HB.out (Bnd.step i hik (by rw [hd]; exact hb)))
      rw [hd] at hr hw
      have HR := Lib.hid hr
      clear hr hd
      go_wp2_with fail
      refine (HR.out).mono ?_
      rintro e w2 ⟨⟨r, rfl⟩, m2, rfl⟩
      dsimp only
      go_wp2_with fail
      go_roundw
      case rel => exact ⟨i + d, mm + m2, by simp, rfl, by omega, HBN⟩
      case measure => simp only [intOf]; omega
    · by_cases he : i = k
      · subst he
        go_wp2_with fail
        go_ret
        exact ⟨⟨true, by simp, fun _ => HB.out Bnd.here⟩, _, rfl⟩
      · have hne : ((i : Int) == (k : Int)) = false := by simp; omega
        go_wp2_with fail
        go_ret
        exact ⟨⟨false, rfl, fun h => (by cases h)⟩, _, rfl⟩
set_option maxRecDepth 100000 in
set_option maxHeartbeats 1000000 in
/-- zzEqBytes on the same bytes -/
theorem eq23 (w : World) (v1 v2 : Value) (xs : List Int) (h1 : Bytes w v1 xs) (h2 : Bytes w v2 xs) (l1 : xs.length ≤ 67108864) :
    Calls Tryd.prog 23 #[v1, v2] w fun e w' => e = .returned (.bool true) ∧ ∃ n, w' = w.drewN n := by
  obtain ⟨p1, c1, rfl, hc1, hi1⟩ := h1
  obtain ⟨p2, c2, rfl, hc2, hi2⟩ := h2
  have H1 := Lib.hid hi1; have H2 := Lib.hid hi2
  clear hi1 hi2
  obtain ⟨n, hn⟩ : ∃ n, xs.length = n := ⟨_, rfl⟩
  have HN := Lib.hid hn
  rw [hn] at l1 hc1 hc2 ⊢
  clear hn
  go_enter Tryd.func23, Tryd.ntmps23
  go_wp2_with fail
  go_loopw [5] (fun a w' => ∃ i m : Nat, a = .int .i64 i ∧ w' = w.drewN m ∧ i ≤ n) (fun a w' => n - (intOf a).toNat)
  case atStart => exact ⟨0, 0, rfl, rfl, by omega⟩
  case round =>
    obtain ⟨i, m, rfl, rfl, hi⟩ := hrel
    by_cases hlt : i < n
    · obtain ⟨x1, rfl, e1⟩ := H1.out i (by have := HN.out; omega)
      obtain ⟨x2, rfl, e2⟩ := H2.out i (by have := HN.out; omega)
      obtain ⟨A, hA⟩ : ∃ A, xs.getD i 0 = A := ⟨_, rfl⟩
      rw [hA] at e1 e2
      clear hA
      go_wp2_with fail
      go_quiet (fail)
      go_wp2_with fail
      go_roundw
      case rel => exact ⟨i + 1, _, by simp, by trivial, by omega⟩
      case measure => simp only [intOf]; omega
    · obtain rfl : i = n := by omega
      go_wp2_with fail
      go_ret
      exact ⟨rfl, _, rfl⟩
end Go.Proofs.YtlplikpjnocdfaaDoor
