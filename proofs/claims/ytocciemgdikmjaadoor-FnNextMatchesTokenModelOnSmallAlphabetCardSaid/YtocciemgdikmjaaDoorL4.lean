/-
  The domain of n011_111's laws: what zzHasURLParen and zzNextDomain tell.
-/
import Derived.Test.YtocciemgdikmjaaDoorC4
import Derived.Deep.DeepCutAuto
namespace Go.Proofs.YtocciemgdikmjaaDoor
open Go.ChangeShapes Go.WideShapes Go.ChangeAt Go.RowKit
open Go.Lib (decodeN decode_at decodeGo)
set_option linter.unusedVariables false
def UrlSaid (s : ByteArray) (e : Ending) : Prop := ∃ b, e = .returned (.bool b) ∧ (b = false → NoUrl s)
theorem UrlSaid.no {s : ByteArray} (h : NoUrl s) : UrlSaid s (.returned (.bool false)) := ⟨false, rfl, fun _ => h⟩
theorem UrlSaid.yes {s : ByteArray} : UrlSaid s (.returned (.bool true)) := ⟨true, rfl, fun h => by cases h⟩
def DomSaid (s : ByteArray) (e : Ending) : Prop := ∃ b, e = .returned (.bool b) ∧ (b = true → Dom s ∧ NoUrl s)
theorem DomSaid.no {s : ByteArray} : DomSaid s (.returned (.bool false)) := ⟨false, rfl, fun h => by cases h⟩
theorem DomSaid.yes {s : ByteArray} (h : Dom s ∧ NoUrl s) : DomSaid s (.returned (.bool true)) := ⟨true, rfl, fun _ => h⟩
def UrlAt (s : ByteArray) (i : Nat) : Prop := (byt s i = 117 ∨ byt s i = 85) ∧ (byt s (i + 1) = 114 ∨ byt s (i + 1) = 82) ∧ (byt s (i + 2) = 108 ∨ byt s (i + 2) = 76) ∧ byt s (i + 3) = 40
theorem or_all_u : ((List.range 256).all fun b => (bits .or .u8 ((b : Nat) : Int) 32 == 117) == decide (b = 117 ∨ b = 85)) = true := by kernel_rfl
theorem or_u (b : Nat) (hb : b < 256) : (bits .or .u8 (b : Int) 32 == 117) = decide (b = 117 ∨ b = 85) :=
  eq_of_beq (List.all_eq_true.1 or_all_u b (List.mem_range.2 hb))
theorem or_all_r : ((List.range 256).all fun b => (bits .or .u8 ((b : Nat) : Int) 32 == 114) == decide (b = 114 ∨ b = 82)) = true := by kernel_rfl
theorem or_r (b : Nat) (hb : b < 256) : (bits .or .u8 (b : Int) 32 == 114) = decide (b = 114 ∨ b = 82) :=
  eq_of_beq (List.all_eq_true.1 or_all_r b (List.mem_range.2 hb))
theorem or_all_l : ((List.range 256).all fun b => (bits .or .u8 ((b : Nat) : Int) 32 == 108) == decide (b = 108 ∨ b = 76)) = true := by kernel_rfl
theorem or_l (b : Nat) (hb : b < 256) : (bits .or .u8 (b : Int) 32 == 108) = decide (b = 108 ∨ b = 76) :=
  eq_of_beq (List.all_eq_true.1 or_all_l b (List.mem_range.2 hb))
set_option maxRecDepth 100000 in
set_option maxHeartbeats 4000000 in
theorem zz62 (s : ByteArray) (hs : s.size ≤ 1048576) (w : World) : Calls Tryd.prog 62 #[.string s] w fun e w' => UrlSaid s e ∧ w = w' := by
  go_enter Tryd.func62, Tryd.ntmps62
  go_wp2_with fail
  go_loopw [3] (fun a w' => ∃ i : Nat, a = .int .i64 i ∧ w = w' ∧ i ≤ s.size ∧ Hid (∀ q, q < i → ¬ UrlAt s q)) (fun a w' => s.size - (intOf a).toNat)
  case atStart => exact ⟨0, rfl, rfl, by omega, Lib.hid (fun q hq => absurd hq (by omega))⟩
  case round =>
    obtain ⟨i, rfl, rfl, hi, HA⟩ := hrel
    by_cases hlt : i + 3 < s.size
    case neg =>
      have HNU := Lib.hid (show NoUrl s from fun q hq => HA.out q (by omega))
      have h3 : ¬ (i : Int) + 3 < (s.size : Int) := by omega
      go_wp2_with fail
      go_ret
      exact ⟨UrlSaid.no HNU.out, rfl⟩
    have h3 : (i : Int) + 3 < (s.size : Int) := by omega
    have i0 : i < s.size := by omega
    have i1 : i + 1 < s.size := by omega
    have i2 : i + 2 < s.size := by omega
    obtain ⟨b0, hb0⟩ : ∃ b, (s[i]'i0).toNat = b := ⟨_, rfl⟩
    have g0 : ((s[i]'i0).toNat : Int) = (b0 : Int) := by omega
    have y0 : byt s (i) = b0 := by rw [← byt_at s (i) i0]; exact hb0
    have z0 : b0 < 256 := by rw [← y0]; exact byt_lt _ _
    obtain ⟨b1, hb1⟩ : ∃ b, (s[i + 1]'i1).toNat = b := ⟨_, rfl⟩
    have g1 : ((s[i + 1]'i1).toNat : Int) = (b1 : Int) := by omega
    have y1 : byt s (i + 1) = b1 := by rw [← byt_at s (i + 1) i1]; exact hb1
    have z1 : b1 < 256 := by rw [← y1]; exact byt_lt _ _
    obtain ⟨b2, hb2⟩ : ∃ b, (s[i + 2]'i2).toNat = b := ⟨_, rfl⟩
    have g2 : ((s[i + 2]'i2).toNat : Int) = (b2 : Int) := by omega
    have y2 : byt s (i + 2) = b2 := by rw [← byt_at s (i + 2) i2]; exact hb2
    have z2 : b2 < 256 := by rw [← y2]; exact byt_lt _ _
    obtain ⟨b3, hb3⟩ : ∃ b, (s[i + 3]'hlt).toNat = b := ⟨_, rfl⟩
    have g3 : ((s[i + 3]'hlt).toNat : Int) = (b3 : Int) := by omega
    have y3 : byt s (i + 3) = b3 := by rw [← byt_at s (i + 3) hlt]; exact hb3
    have z3 : b3 < 256 := by rw [← y3]; exact byt_lt _ _
    have HY := Lib.hid (And.intro y0 (And.intro y1 (And.intro y2 y3)))
    have HF := Lib.hid (And.intro (or_u b0 z0) (And.intro (or_r b1 z1) (or_l b2 z2)))
    clear hb0 hb1 hb2 hb3 y0 y1 y2 y3
    by_cases u0 : b0 = 117 ∨ b0 = 85
    case neg =>
      have f0 : (bits .or .u8 (b0 : Int) 32 == 117) = false := by rw [HF.out.1]; exact decide_eq_false u0
      have HNO := Lib.hid (show ¬ UrlAt s i from fun hh => u0 (by have := hh.1; rw [HY.out.1] at this; exact this))
      clear u0
      go_wp2_with fail
      go_roundw
      case rel => exact ⟨i + 1, by simp, by trivial, by omega, Lib.hid (fun q hq => by
        by_cases hqi : q < i
        · exact HA.out q hqi
        · obtain rfl : q = i := by omega
          exact HNO.out)⟩
      case measure => simp only [intOf]; omega
    have f0 : (bits .or .u8 (b0 : Int) 32 == 117) = true := by rw [HF.out.1]; exact decide_eq_true u0
    clear u0
    by_cases u1 : b1 = 114 ∨ b1 = 82
    case neg =>
      have f1 : (bits .or .u8 (b1 : Int) 32 == 114) = false := by rw [HF.out.2.1]; exact decide_eq_false u1
      have HNO := Lib.hid (show ¬ UrlAt s i from fun hh => u1 (by have := hh.2.1; rw [HY.out.2.1] at this; exact this))
      clear u1
      go_wp2_with fail
      go_roundw
      case rel => exact ⟨i + 1, by simp, by trivial, by omega, Lib.hid (fun q hq => by
        by_cases hqi : q < i
        · exact HA.out q hqi
        · obtain rfl : q = i := by omega
          exact HNO.out)⟩
      case measure => simp only [intOf]; omega
    have f1 : (bits .or .u8 (b1 : Int) 32 == 114) = true := by rw [HF.out.2.1]; exact decide_eq_true u1
    clear u1
    by_cases u2 : b2 = 108 ∨ b2 = 76
    case neg =>
      have f2 : (bits .or .u8 (b2 : Int) 32 == 108) = false := by rw [HF.out.2.2]; exact decide_eq_false u2
      have HNO := Lib.hid (show ¬ UrlAt s i from fun hh => u2 (by have := hh.2.2.1; rw [HY.out.2.2.1] at this; exact this))
      clear u2
      go_wp2_with fail
      go_roundw
      case rel => exact ⟨i + 1, by simp, by trivial, by omega, Lib.hid (fun q hq => by
        by_cases hqi : q < i
        · exact HA.out q hqi
        · obtain rfl : q = i := by omega
          exact HNO.out)⟩
      case measure => simp only [intOf]; omega
    have f2 : (bits .or .u8 (b2 : Int) 32 == 108) = true := by rw [HF.out.2.2]; exact decide_eq_true u2
    clear u2
    by_cases u3 : b3 = 40
    case neg =>
      have f3 : ((b3 : Int) == 40) = false := by rw [beq_eq_false_iff_ne]; omega
      have HNO := Lib.hid (show ¬ UrlAt s i from fun hh => u3 (by have := hh.2.2.2; rw [HY.out.2.2.2] at this; exact this))
      clear u3
      go_wp2_with fail
      go_roundw
      case rel => exact ⟨i + 1, by simp, by trivial, by omega, Lib.hid (fun q hq => by
        by_cases hqi : q < i
        · exact HA.out q hqi
        · obtain rfl : q = i := by omega
          exact HNO.out)⟩
      case measure => simp only [intOf]; omega
    have f3 : ((b3 : Int) == 40) = true := by rw [beq_iff_eq]; omega
    clear u3
    go_wp2_with fail
    go_ret
    exact ⟨UrlSaid.yes, rfl⟩
set_option maxRecDepth 100000 in
set_option maxHeartbeats 4000000 in
theorem dom45 (s : ByteArray) (hs : s.size ≤ 1048576) (w : World) : Calls Tryd.prog 45 #[.string s] w fun e w' => DomSaid s e ∧ w = w' := by
  have HZ := Lib.hid (fun w => zz62 s hs w)
  go_enter Tryd.func45, Tryd.ntmps45
  go_wp2_with fail
  go_loopw [3] (fun a w' => ∃ i : Nat, a = .int .i64 i ∧ w = w' ∧ i ≤ s.size ∧ Hid (∀ q, q < i → byt s q ≠ 47 ∧ byt s q ≠ 92 ∧ byt s q ≠ 34 ∧ byt s q ≠ 39)) (fun a w' => s.size - (intOf a).toNat)
  case atStart => exact ⟨0, rfl, rfl, by omega, Lib.hid (fun q hq => absurd hq (by omega))⟩
  case round =>
    obtain ⟨i, rfl, rfl, hi, HA⟩ := hrel
    by_cases hlt : i < s.size
    case neg =>
      have HDM := Lib.hid (show Dom s from fun q hq => HA.out q (by omega))
      go_wp2_with fail
      refine (HZ.out _).mono ?_
      rintro e w2 ⟨⟨b, rfl, hb⟩, rfl⟩
      have HB := Lib.hid hb
      clear hb
      dsimp only
      cases b with
      | true =>
        go_wp2_with fail
        go_ret
        exact ⟨DomSaid.no, rfl⟩
      | false =>
        go_wp2_with fail
        go_ret
        exact ⟨DomSaid.yes ⟨HDM.out, HB.out trivial⟩, rfl⟩
    obtain ⟨b, hb⟩ : ∃ b, (s[i]'hlt).toNat = b := ⟨_, rfl⟩
    have g0 : ((s[i]'hlt).toNat : Int) = (b : Int) := by omega
    have HY := Lib.hid (show byt s i = b by rw [← byt_at s i hlt]; exact hb)
    clear hb
    by_cases hbad : b = 47 ∨ b = 92 ∨ b = 34 ∨ b = 39
    · rcases hbad with rfl | rfl | rfl | rfl
      all_goals
        go_wp2_with fail
        go_ret
        exact ⟨DomSaid.no, rfl⟩
    · have HNO := Lib.hid hbad
      have d1 : ((b : Int) == 47) = false := by rw [beq_eq_false_iff_ne]; omega
      have d2 : ((b : Int) == 92) = false := by rw [beq_eq_false_iff_ne]; omega
      have d3 : ((b : Int) == 34) = false := by rw [beq_eq_false_iff_ne]; omega
      have d4 : ((b : Int) == 39) = false := by rw [beq_eq_false_iff_ne]; omega
      clear hbad
      go_wp2_with fail
      go_roundw
      case rel => exact ⟨i + 1, by simp, by trivial, by omega, Lib.hid (fun q hq => by
        by_cases hqi : q < i
        · exact HA.out q hqi
        · obtain rfl : q = i := by omega
          have := HNO.out; rw [HY.out]; omega)⟩
      case measure => simp only [intOf]; omega
end Go.Proofs.YtocciemgdikmjaaDoor
