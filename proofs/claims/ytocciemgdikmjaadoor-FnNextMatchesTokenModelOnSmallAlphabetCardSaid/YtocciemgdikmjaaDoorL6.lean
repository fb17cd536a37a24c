/-
  The model of the small alphabet: zzSmallDomain, zzLetterRun, zzModelToken.
-/
import Derived.Test.YtocciemgdikmjaaDoorL1
import Derived.Test.YtocciemgdikmjaaDoorL4
namespace Go.Proofs.YtocciemgdikmjaaDoor
open Go.ChangeShapes Go.WideShapes Go.ChangeAt Go.RowKit
open Go.Lib (decodeN decode_at decodeGo)
set_option linter.unusedVariables false
def SmSaid (s : ByteArray) (e : Ending) : Prop := ∃ b, e = .returned (.bool b) ∧ (b = true → Small s ∧ NoUrl s)
theorem SmSaid.no {s : ByteArray} : SmSaid s (.returned (.bool false)) := ⟨false, rfl, fun h => by cases h⟩
theorem SmSaid.yes {s : ByteArray} (h : Small s ∧ NoUrl s) : SmSaid s (.returned (.bool true)) := ⟨true, rfl, fun _ => h⟩
set_option maxRecDepth 100000 in
set_option maxHeartbeats 4000000 in
theorem sd31 (s : ByteArray) (hs : s.size ≤ 1048576) (w : World) : Calls Tryd.prog 31 #[.string s] w fun e w' => SmSaid s e ∧ w = w' := by
  have HZ := Lib.hid (fun w => zz62 s hs w)
  have HW := Lib.hid (fun c w => wsb60 c w)
  have HL := Lib.hid (fun c w => let61 c w)
  have HP := Lib.hid (fun c w => pk59 c w)
  go_enter Tryd.func31, Tryd.ntmps31
  go_wp2_with fail
  go_loopw [3] (fun a w' => ∃ i : Nat, a = .int .i64 i ∧ w = w' ∧ i ≤ s.size ∧ Hid (∀ q, q < i → smB (byt s q) = true)) (fun a w' => s.size - (intOf a).toNat)
  case atStart => exact ⟨0, rfl, rfl, by omega, Lib.hid (fun q hq => absurd hq (by omega))⟩
  case round =>
    obtain ⟨i, rfl, rfl, hi, HA⟩ := hrel
    by_cases hlt : i < s.size
    case neg =>
      have HSM := Lib.hid (show Small s from fun q hq => HA.out q (by omega))
      go_wp2_with fail
      refine (HZ.out _).mono ?_
      rintro e w2 ⟨⟨b, rfl, hb⟩, rfl⟩
      have HB := Lib.hid hb
      clear hb
      dsimp only
      cases b with
      | true =>
        go_wp2_with fail
        go_ret
        exact ⟨SmSaid.no, rfl⟩
      | false =>
        go_wp2_with fail
        go_ret
        exact ⟨SmSaid.yes ⟨HSM.out, HB.out trivial⟩, rfl⟩
    obtain ⟨b, hb⟩ : ∃ b, (s[i]'hlt).toNat = b := ⟨_, rfl⟩
    have g0 : ((s[i]'hlt).toNat : Int) = (b : Int) := by omega
    have HY := Lib.hid (show byt s i = b by rw [← byt_at s i hlt]; exact hb)
    clear hb
    have HNX := Lib.hid (show smB b = true → ∀ q, q < i + 1 → smB (byt s q) = true from fun hh q hq => by
        by_cases hqi : q < i
        · exact HA.out q hqi
        · obtain rfl : q = i := by omega
          rw [HY.out]; exact hh)
    go_wp2_with fail
    refine (HP.out b _).mono ?_
    rintro e w2 ⟨rfl, rfl⟩
    unfold punV
    dsimp only
    go_wp2_with fail
    refine (HW.out b _).mono ?_
    rintro e w2 ⟨rfl, rfl⟩
    dsimp only
    cases hw : wsC b with
    | true =>
      have HS := Lib.hid (HNX.out (by unfold smB; rw [hw]; simp))
      clear hw
      go_wp2_with fail
      go_roundw
      case rel => exact ⟨i + 1, by simp, by trivial, by omega, HS⟩
      case measure => simp only [intOf]; omega
    | false =>
    have HWF := Lib.hid hw
    clear hw
    go_wp2_with fail
    refine (HL.out b _).mono ?_
    rintro e w2 ⟨rfl, rfl⟩
    dsimp only
    cases hl : letC b with
    | true =>
      have HS := Lib.hid (HNX.out (by unfold smB; rw [hl]; simp))
      clear hl
      go_wp2_with fail
      go_roundw
      case rel => exact ⟨i + 1, by simp, by trivial, by omega, HS⟩
      case measure => simp only [intOf]; omega
    | false =>
    have HLF := Lib.hid hl
    clear hl
    by_cases h35 : b = 35
    · have HS := Lib.hid (HNX.out (by unfold smB; simp [h35]))
      subst h35
      go_wp2_with fail
      go_roundw
      case rel => exact ⟨i + 1, by simp, by trivial, by omega, HS⟩
      case measure => simp only [intOf]; omega
    have d35 : ((b : Int) == 35) = false := by rw [beq_eq_false_iff_ne]; omega
    by_cases h64 : b = 64
    · have HS := Lib.hid (HNX.out (by unfold smB; simp [h64]))
      subst h64
      clear h35
      go_wp2_with fail
      go_roundw
      case rel => exact ⟨i + 1, by simp, by trivial, by omega, HS⟩
      case measure => simp only [intOf]; omega
    have d64 : ((b : Int) == 64) = false := by rw [beq_eq_false_iff_ne]; omega
    clear h35 h64
    cases hk : (punK b).isSome with
    | true =>
      have HS := Lib.hid (HNX.out (by unfold smB; rw [hk]; simp))
      clear hk
      go_wp2_with fail
      go_roundw
      case rel => exact ⟨i + 1, by simp, by trivial, by omega, HS⟩
      case measure => simp only [intOf]; omega
    | false =>
      clear hk
      go_wp2_with fail
      go_ret
      exact ⟨SmSaid.no, rfl⟩
set_option maxRecDepth 100000 in
theorem lr64 (s : ByteArray) (p : Nat) (hs : s.size ≤ 1048576) (hp : p ≤ s.size) (w : World) : Calls Tryd.prog 64 #[.string s, .int .i64 p] w fun e w' => e = .returned (.int .i64 (run letC s p : Nat)) ∧ w = w' := by
  have HL := Lib.hid (fun c w => let61 c w)
  go_enter Tryd.func64, Tryd.ntmps64
  go_wp2_with fail
  go_loopw [5] (fun a w' => ∃ j : Nat, a = .int .i64 j ∧ w = w' ∧ j ≤ s.size ∧ Hid (run letC s p = run letC s j)) (fun a w' => s.size - (intOf a).toNat)
  case atStart => exact ⟨p, rfl, rfl, hp, Lib.hid rfl⟩
  case round =>
    obtain ⟨j, rfl, rfl, hj, HR⟩ := hrel
    by_cases hlt : j < s.size
    case neg =>
      have HE := Lib.hid (show run letC s p = j by rw [HR.out]; exact run_stop _ s j (fun h => absurd h hlt))
      go_wp2_with fail
      go_ret
      exact ⟨by rw [HE.out]; rfl, rfl⟩
    obtain ⟨b, hb⟩ : ∃ b, (s[j]'hlt).toNat = b := ⟨_, rfl⟩
    have g0 : ((s[j]'hlt).toNat : Int) = (b : Int) := by omega
    have HY := Lib.hid (show byt s j = b by rw [← byt_at s j hlt]; exact hb)
    clear hb
    go_wp2_with fail
    refine (HL.out b _).mono ?_
    rintro e w2 ⟨rfl, rfl⟩
    dsimp only
    cases hl : letC b with
    | true =>
      have HS := Lib.hid (show run letC s p = run letC s (j + 1) by rw [HR.out]; exact run_go _ s j hlt (by rw [HY.out]; exact hl))
      clear hl
      go_wp2_with fail
      go_roundw
      case rel => exact ⟨j + 1, by simp, by trivial, by omega, HS⟩
      case measure => simp only [intOf]; omega
    | false =>
      have HE := Lib.hid (show run letC s p = j by rw [HR.out]; exact run_stop _ s j (fun _ => by rw [HY.out]; exact hl))
      clear hl
      go_wp2_with fail
      go_ret
      exact ⟨by rw [HE.out]; rfl, rfl⟩
def mtV (t : Tok) : Value := .tuple #[.int .u8 (t.k : Nat), .int .i64 (t.e : Nat), .int .u8 (t.f : Nat)]
theorem mtok_u (s : ByteArray) (p : Nat) : (mtok s p).u = 0 := by
  unfold mtok
  repeat' split
  all_goals rfl
set_option maxRecDepth 100000 in
set_option maxHeartbeats 4000000 in
theorem mt36 (s : ByteArray) (p : Nat) (hs : s.size ≤ 1048576) (hp : p ≤ s.size) (w : World) : Calls Tryd.prog 36 #[.string s, .int .i64 p] w fun e w' => e = .returned (mtV (mtok s p)) ∧ w = w' := by
  have HL := Lib.hid (fun c w => let61 c w)
  have HW := Lib.hid (fun c w => wsb60 c w)
  have HP := Lib.hid (fun c w => pk59 c w)
  have HG := Lib.hid (fun p (hp : p ≤ s.size) w => lr64 s p hs hp w)
  by_cases hlt : p < s.size
  case neg =>
    obtain rfl : p = s.size := by omega
    have HR := Lib.hid (show mtok s s.size = ⟨0, s.size, 0, 0⟩ by unfold mtok; rw [if_pos (Nat.le_refl _)])
    go_enter Tryd.func36, Tryd.ntmps36
    go_wp2_with fail
    go_ret3
    exact ⟨by rw [HR.out]; rfl, rfl⟩
  obtain ⟨b, hb⟩ : ∃ b, (s[p]'hlt).toNat = b := ⟨_, rfl⟩
  have g0 : ((s[p]'hlt).toNat : Int) = (b : Int) := by omega
  have hy : byt s p = b := by rw [← byt_at s p hlt]; exact hb
  clear hb
  have HM := Lib.hid (show mtok s p = (if wsC b = true then ⟨38, run wsC s p, 0, 0⟩
  else if letC b = true then (if byt s (run letC s p) = 40 then ⟨27, run letC s p + 1, 0, 0⟩ else ⟨29, run letC s p, 0, 0⟩)
  else if b = 35 then (if letC (byt s (p + 1)) = true then ⟨28, run letC s (p + 1), 0, 1⟩ else ⟨11, p + 1, 0, 0⟩)
  else if b = 64 then (if letC (byt s (p + 1)) = true then ⟨1, run letC s (p + 1), 0, 0⟩ else ⟨11, p + 1, 0, 0⟩)
  else match punK b with
  | some k => ⟨k, p + 1, 0, 0⟩
  | none => ⟨11, p + 1, 0, 0⟩) by unfold mtok; rw [if_neg (by omega), hy]; rfl)
  have HY := Lib.hid hy
  clear hy
  go_enter Tryd.func36, Tryd.ntmps36
  go_wp2_with fail
  refine (HW.out b _).mono ?_
  rintro e w2 ⟨rfl, rfl⟩
  dsimp only
  cases hw : wsC b with
  | true =>
    rw [hw, if_pos rfl] at HM
    clear hw
    go_wp2_with fail
    go_loopw [8] (fun a w' => ∃ j : Nat, a = .int .i64 j ∧ w = w' ∧ j ≤ s.size ∧ Hid (run wsC s p = run wsC s j)) (fun a w' => s.size - (intOf a).toNat)
    case atStart => exact ⟨p, rfl, rfl, hp, Lib.hid rfl⟩
    case round =>
      obtain ⟨j, rfl, rfl, hj, HR⟩ := hrel
      by_cases hlj : j < s.size
      case neg =>
        have HE := Lib.hid (show run wsC s p = j by rw [HR.out]; exact run_stop _ s j (fun h => absurd h hlj))
        go_wp2_with fail
        go_ret3
        exact ⟨by rw [HM.out, HE.out]; rfl, rfl⟩
      obtain ⟨c, hc⟩ : ∃ c, (s[j]'hlj).toNat = c := ⟨_, rfl⟩
      have g1 : ((s[j]'hlj).toNat : Int) = (c : Int) := by omega
      have HC := Lib.hid (show byt s j = c by rw [← byt_at s j hlj]; exact hc)
      clear hc
      go_wp2_with fail
      refine (HW.out c _).mono ?_
      rintro e w2 ⟨rfl, rfl⟩
      dsimp only
      cases hl : wsC c with
      | true =>
        have HS := Lib.hid (show run wsC s p = run wsC s (j + 1) by rw [HR.out]; exact run_go _ s j hlj (by rw [HC.out]; exact hl))
        clear hl
        go_wp2_with fail
        go_roundw
        case rel => exact ⟨j + 1, by simp, by trivial, by omega, HS⟩
        case measure => simp only [intOf]; omega
      | false =>
        have HE := Lib.hid (show run wsC s p = j by rw [HR.out]; exact run_stop _ s j (fun _ => by rw [HC.out]; exact hl))
        clear hl
        go_wp2_with fail
        go_ret3
        exact ⟨by rw [HM.out, HE.out]; rfl, rfl⟩
  | false =>
  rw [hw, if_neg (by simp)] at HM
  clear hw
  go_wp2_with fail
  refine (HL.out b _).mono ?_
  rintro e w2 ⟨rfl, rfl⟩
  dsimp only
  cases hl : letC b with
  | true =>
    rw [hl, if_pos rfl] at HM
    obtain ⟨r, hr⟩ : ∃ r, run letC s p = r := ⟨_, rfl⟩
    have hrl : r ≤ s.size := by rw [← hr]; exact run_le _ s p hp
    have HG1 := Lib.hid (HG.out p hp w)
    rw [hr] at HG1 HM
    clear hl hr
    go_wp2_with fail
    refine (HG1.out).mono ?_
    rintro e w2 ⟨rfl, rfl⟩
    dsimp only
    by_cases hrs : r < s.size
    case neg =>
      rw [byt_end s r (by omega), if_neg (by omega)] at HM
      go_wp2_with fail
      go_ret3
      exact ⟨by rw [HM.out]; rfl, rfl⟩
    obtain ⟨c, hc⟩ : ∃ c, (s[r]'hrs).toNat = c := ⟨_, rfl⟩
    have g1 : ((s[r]'hrs).toNat : Int) = (c : Int) := by omega
    rw [show byt s r = c by rw [← byt_at s r hrs]; exact hc] at HM
    clear hc
    by_cases h40 : c = 40
    · rw [if_pos h40] at HM
      subst h40
      go_wp2_with fail
      go_ret3
      exact ⟨by rw [HM.out]; rfl, rfl⟩
    · rw [if_neg h40] at HM
      have d40 : ((c : Int) == 40) = false := by rw [beq_eq_false_iff_ne]; omega
      clear h40
      go_wp2_with fail
      go_ret3
      exact ⟨by rw [HM.out]; rfl, rfl⟩
  | false =>
  rw [hl, if_neg (by simp)] at HM
  clear hl
  by_cases h35 : b = 35
  · subst h35
    rw [if_pos rfl] at HM
    by_cases hq : p + 1 < s.size
    case neg =>
      rw [byt_end s (p + 1) (by omega), if_neg (by decide)] at HM
      go_wp2_with fail
      go_ret3
      exact ⟨by rw [HM.out]; rfl, rfl⟩
    obtain ⟨c, hc⟩ : ∃ c, (s[p + 1]'hq).toNat = c := ⟨_, rfl⟩
    have g1 : ((s[p + 1]'hq).toNat : Int) = (c : Int) := by omega
    rw [show byt s (p + 1) = c by rw [← byt_at s (p + 1) hq]; exact hc] at HM
    clear hc
    go_wp2_with fail
    refine (HL.out c _).mono ?_
    rintro e w2 ⟨rfl, rfl⟩
    dsimp only
    cases hl : letC c with
    | true =>
      rw [hl, if_pos rfl] at HM
      have HG1 := Lib.hid (HG.out (p + 1) (by omega) w)
      clear hl
      go_wp2_with fail
      refine (HG1.out).mono ?_
      rintro e w2 ⟨rfl, rfl⟩
      dsimp only
      go_wp2_with fail
      go_ret3
      exact ⟨by rw [HM.out]; rfl, rfl⟩
    | false =>
      rw [hl, if_neg (by simp)] at HM
      clear hl
      go_wp2_with fail
      go_ret3
      exact ⟨by rw [HM.out]; rfl, rfl⟩
  have d35 : ((b : Int) == 35) = false := by rw [beq_eq_false_iff_ne]; omega
  rw [if_neg h35] at HM
  clear h35
  by_cases h64 : b = 64
  · subst h64
    rw [if_pos rfl] at HM
    by_cases hq : p + 1 < s.size
    case neg =>
      rw [byt_end s (p + 1) (by omega), if_neg (by decide)] at HM
      go_wp2_with fail
      go_ret3
      exact ⟨by rw [HM.out]; rfl, rfl⟩
    obtain ⟨c, hc⟩ : ∃ c, (s[p + 1]'hq).toNat = c := ⟨_, rfl⟩
    have g1 : ((s[p + 1]'hq).toNat : Int) = (c : Int) := by omega
    rw [show byt s (p + 1) = c by rw [← byt_at s (p + 1) hq]; exact hc] at HM
    clear hc
    go_wp2_with fail
    refine (HL.out c _).mono ?_
    rintro e w2 ⟨rfl, rfl⟩
    dsimp only
    cases hl : letC c with
    | true =>
      rw [hl, if_pos rfl] at HM
      have HG1 := Lib.hid (HG.out (p + 1) (by omega) w)
      clear hl
      go_wp2_with fail
      refine (HG1.out).mono ?_
      rintro e w2 ⟨rfl, rfl⟩
      dsimp only
      go_wp2_with fail
      go_ret3
      exact ⟨by rw [HM.out]; rfl, rfl⟩
    | false =>
      rw [hl, if_neg (by simp)] at HM
      clear hl
      go_wp2_with fail
      go_ret3
      exact ⟨by rw [HM.out]; rfl, rfl⟩
  have d64 : ((b : Int) == 64) = false := by rw [beq_eq_false_iff_ne]; omega
  rw [if_neg h64] at HM
  clear h64
  have HPB := Lib.hid (HP.out b w)
  unfold punV at HPB
  cases hk : punK b with
  | some k =>
    rw [hk] at HM HPB
    clear hk
    go_wp2_with fail
    refine (HPB.out).mono ?_
    rintro e w2 ⟨rfl, rfl⟩
    dsimp only [Option.getD, Option.isSome]
    go_wp2_with fail
    go_ret3
    exact ⟨by rw [HM.out]; rfl, rfl⟩
  | none =>
    rw [hk] at HM HPB
    clear hk
    go_wp2_with fail
    refine (HPB.out).mono ?_
    rintro e w2 ⟨rfl, rfl⟩
    dsimp only [Option.getD, Option.isSome]
    go_wp2_with fail
    go_ret3
    exact ⟨by rw [HM.out]; rfl, rfl⟩
end Go.Proofs.YtocciemgdikmjaaDoor
