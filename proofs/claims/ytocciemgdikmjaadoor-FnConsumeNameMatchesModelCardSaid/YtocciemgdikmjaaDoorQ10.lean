/-
  zzEscapeModelB4: an escape, read off the bytes.
-/
import Derived.Test.YtocciemgdikmjaaDoorQ8
import Derived.Test.YtocciemgdikmjaaDoorQ9
import Derived.Test.YtocciemgdikmjaaDoorD5
import Derived.Deep.DeepCutAuto
namespace Go.Proofs.YtocciemgdikmjaaDoor
open Go.ChangeShapes Go.WideShapes Go.ChangeAt Go.RowKit
open Go.Lib (decodeN decode_at decodeGo)
set_option linter.unusedVariables false
def escV (p : Nat × Nat) : Value := .tuple #[.int .i32 (p.1 : Nat), .int .i64 (p.2 : Nat)]
set_option maxRecDepth 100000 in
set_option maxHeartbeats 8000000 in
theorem em42 (s : ByteArray) (i : Nat) (hi : i ≤ s.size) (hs : s.size ≤ 1048576) (w : World) :
    Calls Tryd.prog 42 #[.string s, .int .i64 i] w fun e w' => e = .returned (escV (esc s i)) ∧ Below w.heap.size w w' := by
  have HHX := Lib.hid (fun c w => hx67 c w)
  have HWS := Lib.hid (fun c w => w52 c w)
  by_cases hl : i < s.size
  case neg =>
    obtain rfl : i = s.size := by omega
    have HE := Lib.hid (show esc s s.size = (65533, s.size) by unfold esc; rw [if_pos (Nat.le_refl _)])
    go_enter Tryd.func42, Tryd.ntmps42
    go_wp2_with fail
    go_ret2
    exact ⟨by rw [HE.out]; rfl, Below.refl _ _⟩
  obtain ⟨b, hb⟩ : ∃ b, byt s i = b := ⟨_, rfl⟩
  have g0 : ((s[i]'hl).toNat : Int) = (b : Int) := by have := byt_at s i hl; omega
  have hlI : ¬ (s.size : Int) ≤ (i : Int) := by omega
  cases hx : hexI (b : Int) with
  | false =>
    have HE := Lib.hid (show esc s i = ((decodeGo (s.extract i s.size)).1, i + wid s i) by unfold esc; rw [if_neg (by omega), if_neg (by rw [hb, hx]; simp)])
    have HD := Lib.hid (fun w => dz65 s i hl hs w)
    have hwl := wid_le s i hi
    obtain ⟨K, hK⟩ : ∃ K, wid s i = K := ⟨_, rfl⟩
    have hK2 : (decodeGo (s.extract i s.size)).2 = K := hK
    obtain ⟨C, hC⟩ : ∃ C, (decodeGo (s.extract i s.size)).1 = C := ⟨_, rfl⟩
    unfold RuneAt at HD
    rw [hK2, hC] at HD
    rw [hC, hK] at HE
    rw [hK] at hwl
    have HX := Lib.hid hx
    clear hx hK hK2 hC hb
    go_enter Tryd.func42, Tryd.ntmps42
    go_wp2_with fail
    refine (HHX.out b _).mono ?_
    rintro e w2 ⟨rfl, rfl⟩
    rw [HX.out]
    dsimp only
    go_wp2_with fail
    refine (HD.out _).mono ?_
    rintro e w3 ⟨rfl, be⟩
    have HB := Lib.hid be
    clear be
    dsimp only
    go_wp2_with fail
    go_ret2
    exact ⟨by rw [HE.out]; rfl, HB.out⟩
  | true =>
  obtain ⟨v0, hv0⟩ : ∃ v0, (hxI (b : Int)).toNat = v0 := ⟨_, rfl⟩
  have hxl := hx_le (b : Int)
  have hv1 : hxI (b : Int) = (v0 : Int) := by omega
  have hv2 : v0 ≤ 15 := by omega
  obtain ⟨V, F, hVF⟩ : ∃ V F, hexR s 5 (i + 1) v0 = (V, F) := ⟨_, _, rfl⟩
  have hVl := hexR_le s 5 (i + 1) v0 (by omega)
  rw [hVF] at hVl
  have hVb : V ≤ 16777216 := by have h1 := hVl.2.2; dsimp only at h1; omega
  have hFl : i + 1 ≤ F ∧ F ≤ s.size := ⟨hVl.1, hVl.2.1⟩
  have HE := Lib.hid (show esc s i = (fixV V, if wsC (byt s F) = true then F + 1 else F) by
    unfold esc
    rw [if_neg (by omega), hb, if_pos hx, hv0, hVF])
  have HX := Lib.hid hx
  have HVF := Lib.hid hVF
  have HV1 := Lib.hid hv1
  clear hx hb hVl hv0 hxl hVF hv1
  go_enter Tryd.func42, Tryd.ntmps42
  go_wp2_with fail
  refine (HHX.out b _).mono ?_
  rintro e w2 ⟨rfl, rfl⟩
  rw [HX.out, HV1.out]
  dsimp only
  go_upto_block 0 with fail
  go_cut [1, 11] (fun iv vv wx => iv = .int .i64 (F : Nat) ∧ vv = .int .i64 (V : Nat) ∧ w = wx)
  case first =>
    go_wp2_with fail
    go_loopw [1, 11, 12] (fun iv vv kv w' => ∃ r v k : Nat, iv = .int .i64 r ∧ vv = .int .i64 v ∧ kv = .int .i64 k ∧ w = w' ∧ r ≤ s.size ∧ 1 ≤ k ∧ k ≤ 6 ∧ Hid (v < 16 ^ k ∧ hexR s (6 - k) r v = (V, F))) (fun iv vv kv w' => 6 - (intOf kv).toNat)
    case atStart => exact ⟨i + 1, v0, 1, by simp, rfl, rfl, rfl, by omega, by omega, by omega, Lib.hid ⟨by omega, HVF.out⟩⟩
    case round =>
      obtain ⟨r, v, k, rfl, rfl, rfl, rfl, hrl, hk1, hk6, HR⟩ := hrel
      by_cases hk : k < 6
      case neg =>
        obtain rfl : k = 6 := by omega
        have HX2 := Lib.hid (show v = V ∧ r = F from by have hR := HR.out.2; rw [show (6 : Nat) - 6 = 0 from rfl, hexR] at hR; injection hR with a b; exact ⟨a, b⟩)
        go_wp2_with fail
        go_meet
        exact ⟨by rw [HX2.out.2], by rw [HX2.out.1], rfl⟩
      have hkI : (k : Int) < 6 := by omega
      obtain ⟨j, hj⟩ : ∃ j, 6 - k = j + 1 := ⟨5 - k, by omega⟩
      by_cases hrs : r < s.size
      case neg =>
        have HX2 := Lib.hid (show v = V ∧ r = F from by have hR := HR.out.2; rw [hj, hexR, if_neg (fun hh => hrs hh.1)] at hR; injection hR with a b; exact ⟨a, b⟩)
        go_wp2_with fail
        go_meet
        exact ⟨by rw [HX2.out.2], by rw [HX2.out.1], rfl⟩
      obtain ⟨d, hd⟩ : ∃ d, byt s r = d := ⟨_, rfl⟩
      have g1 : ((s[r]'hrs).toNat : Int) = (d : Int) := by have := byt_at s r hrs; omega
      have hrI : (r : Int) < (s.size : Int) := by omega
      cases hx : hexI (d : Int) with
      | false =>
        have HX2 := Lib.hid (show v = V ∧ r = F from by have hR := HR.out.2; rw [hj, hexR, if_neg (fun hh => by rw [hd, hx] at hh; simp at hh)] at hR; injection hR with a b; exact ⟨a, b⟩)
        have HXF := Lib.hid hx
        clear hx hd
        go_wp2_with fail
        refine (HHX.out d _).mono ?_
        rintro e w3 ⟨rfl, rfl⟩
        rw [HXF.out]
        dsimp only
        go_wp2_with fail
        go_meet
        exact ⟨by rw [HX2.out.2], by rw [HX2.out.1], rfl⟩
      | true =>
        obtain ⟨x, hxx⟩ : ∃ x, (hxI (d : Int)).toNat = x := ⟨_, rfl⟩
        have hxl2 := hx_le (d : Int)
        have hx1 : hxI (d : Int) = (x : Int) := by omega
        have hx2 : x ≤ 15 := by omega
        have hv6 : v ≤ 1048575 := by
          have h1 : 16 ^ k ≤ 16 ^ 5 := Nat.pow_le_pow_right (by omega) (by omega)
          have h2 : (16 : Nat) ^ 5 = 1048576 := by decide
          have := HR.out.1
          omega
        have HNX := Lib.hid (show v * 16 + x < 16 ^ (k + 1) ∧ hexR s (6 - (k + 1)) (r + 1) (v * 16 + x) = (V, F) from ⟨by have := HR.out.1; rw [Nat.pow_succ]; omega, by have hR := HR.out.2; rw [hj, hexR, if_pos ⟨hrs, by rw [hd]; exact hx⟩, hd, hxx] at hR; rw [show 6 - (k + 1) = j by omega]; exact hR⟩)
        have HXT := Lib.hid hx
        have HX1 := Lib.hid hx1
        clear hx hd hxx hxl2 hx1 HR hj
        go_wp2_with fail
        refine (HHX.out d _).mono ?_
        rintro e w3 ⟨rfl, rfl⟩
        rw [HXT.out, HX1.out]
        dsimp only
        go_wp2_with fail
        go_roundw
        case rel => exact ⟨r + 1, v * 16 + x, k + 1, by simp, by simp, by simp, by trivial, by omega, by omega, by omega, HNX⟩
        case measure => simp only [intOf]; omega
  obtain ⟨rfl, rfl, rfl⟩ := hcut
  obtain ⟨E2, hE2⟩ : ∃ E2, (if wsC (byt s F) = true then F + 1 else F) = E2 := ⟨_, rfl⟩
  rw [hE2] at HE
  by_cases hFs : F < s.size
  case neg =>
    have HE2 := Lib.hid (show E2 = F by rw [← hE2, byt_end s F (by omega), if_neg (by decide)])
    clear hE2
    by_cases w0 : V = 0
    · have HFX := Lib.hid (show fixV V = 65533 from by unfold fixV; rw [if_pos (by omega)])
      have t1 : ((V : Int) == 0) = true := by rw [beq_iff_eq]; omega
      go_wp2_with fail
      go_ret2
      exact ⟨by rw [HE.out, HFX.out, HE2.out]; rfl, Below.refl _ _⟩
    by_cases w1 : V < 55296
    · have HFX := Lib.hid (show fixV V = V from by unfold fixV; rw [if_neg (by omega)])
      have t1 : ((V : Int) == 0) = false := flsI _ _ (by omega)
      have t2 : ¬ (55296 : Int) ≤ (V : Int) := by omega
      have t4 : ¬ (1114111 : Int) < (V : Int) := by omega
      go_wp2_with fail
      go_ret2
      exact ⟨by rw [HE.out, HFX.out, HE2.out]; rfl, Below.refl _ _⟩
    by_cases w2 : V ≤ 57343
    · have HFX := Lib.hid (show fixV V = 65533 from by unfold fixV; rw [if_pos (by omega)])
      have t1 : ((V : Int) == 0) = false := flsI _ _ (by omega)
      have t2 : (55296 : Int) ≤ (V : Int) := by omega
      have t3 : (V : Int) ≤ 57343 := by omega
      go_wp2_with fail
      go_ret2
      exact ⟨by rw [HE.out, HFX.out, HE2.out]; rfl, Below.refl _ _⟩
    by_cases w3 : V ≤ 1114111
    · have HFX := Lib.hid (show fixV V = V from by unfold fixV; rw [if_neg (by omega)])
      have t1 : ((V : Int) == 0) = false := flsI _ _ (by omega)
      have t2 : (55296 : Int) ≤ (V : Int) := by omega
      have t3 : ¬ (V : Int) ≤ 57343 := by omega
      have t4 : ¬ (1114111 : Int) < (V : Int) := by omega
      go_wp2_with fail
      go_ret2
      exact ⟨by rw [HE.out, HFX.out, HE2.out]; rfl, Below.refl _ _⟩
    · have HFX := Lib.hid (show fixV V = 65533 from by unfold fixV; rw [if_pos (by omega)])
      have t1 : ((V : Int) == 0) = false := flsI _ _ (by omega)
      have t2 : (55296 : Int) ≤ (V : Int) := by omega
      have t3 : ¬ (V : Int) ≤ 57343 := by omega
      have t4 : (1114111 : Int) < (V : Int) := by omega
      go_wp2_with fail
      go_ret2
      exact ⟨by rw [HE.out, HFX.out, HE2.out]; rfl, Below.refl _ _⟩
  obtain ⟨d, hd⟩ : ∃ d, byt s F = d := ⟨_, rfl⟩
  have g1 : ((s[F]'hFs).toNat : Int) = (d : Int) := by have := byt_at s F hFs; omega
  have hFI : (F : Int) < (s.size : Int) := by omega
  rw [hd] at hE2
  clear hd
  go_wp2_with fail
  refine (HWS.out d _).mono ?_
  rintro e w3 ⟨rfl, rfl⟩
  dsimp only
  cases hw : wsC d with
  | true =>
    have HE2 := Lib.hid (show E2 = F + 1 by rw [← hE2, if_pos hw])
    clear hE2 hw
    by_cases w0 : V = 0
    · have HFX := Lib.hid (show fixV V = 65533 from by unfold fixV; rw [if_pos (by omega)])
      have t1 : ((V : Int) == 0) = true := by rw [beq_iff_eq]; omega
      go_wp2_with fail
      go_ret2
      exact ⟨by rw [HE.out, HFX.out, HE2.out]; rfl, Below.refl _ _⟩
    by_cases w1 : V < 55296
    · have HFX := Lib.hid (show fixV V = V from by unfold fixV; rw [if_neg (by omega)])
      have t1 : ((V : Int) == 0) = false := flsI _ _ (by omega)
      have t2 : ¬ (55296 : Int) ≤ (V : Int) := by omega
      have t4 : ¬ (1114111 : Int) < (V : Int) := by omega
      go_wp2_with fail
      go_ret2
      exact ⟨by rw [HE.out, HFX.out, HE2.out]; rfl, Below.refl _ _⟩
    by_cases w2 : V ≤ 57343
    · have HFX := Lib.hid (show fixV V = 65533 from by unfold fixV; rw [if_pos (by omega)])
      have t1 : ((V : Int) == 0) = false := flsI _ _ (by omega)
      have t2 : (55296 : Int) ≤ (V : Int) := by omega
      have t3 : (V : Int) ≤ 57343 := by omega
      go_wp2_with fail
      go_ret2
      exact ⟨by rw [HE.out, HFX.out, HE2.out]; rfl, Below.refl _ _⟩
    by_cases w3 : V ≤ 1114111
    · have HFX := Lib.hid (show fixV V = V from by unfold fixV; rw [if_neg (by omega)])
      have t1 : ((V : Int) == 0) = false := flsI _ _ (by omega)
      have t2 : (55296 : Int) ≤ (V : Int) := by omega
      have t3 : ¬ (V : Int) ≤ 57343 := by omega
      have t4 : ¬ (1114111 : Int) < (V : Int) := by omega
      go_wp2_with fail
      go_ret2
      exact ⟨by rw [HE.out, HFX.out, HE2.out]; rfl, Below.refl _ _⟩
    · have HFX := Lib.hid (show fixV V = 65533 from by unfold fixV; rw [if_pos (by omega)])
      have t1 : ((V : Int) == 0) = false := flsI _ _ (by omega)
      have t2 : (55296 : Int) ≤ (V : Int) := by omega
      have t3 : ¬ (V : Int) ≤ 57343 := by omega
      have t4 : (1114111 : Int) < (V : Int) := by omega
      go_wp2_with fail
      go_ret2
      exact ⟨by rw [HE.out, HFX.out, HE2.out]; rfl, Below.refl _ _⟩
  | false =>
    have HE2 := Lib.hid (show E2 = F by rw [← hE2, if_neg (by rw [hw]; simp)])
    clear hE2 hw
    by_cases w0 : V = 0
    · have HFX := Lib.hid (show fixV V = 65533 from by unfold fixV; rw [if_pos (by omega)])
      have t1 : ((V : Int) == 0) = true := by rw [beq_iff_eq]; omega
      go_wp2_with fail
      go_ret2
      exact ⟨by rw [HE.out, HFX.out, HE2.out]; rfl, Below.refl _ _⟩
    by_cases w1 : V < 55296
    · have HFX := Lib.hid (show fixV V = V from by unfold fixV; rw [if_neg (by omega)])
      have t1 : ((V : Int) == 0) = false := flsI _ _ (by omega)
      have t2 : ¬ (55296 : Int) ≤ (V : Int) := by omega
      have t4 : ¬ (1114111 : Int) < (V : Int) := by omega
      go_wp2_with fail
      go_ret2
      exact ⟨by rw [HE.out, HFX.out, HE2.out]; rfl, Below.refl _ _⟩
    by_cases w2 : V ≤ 57343
    · have HFX := Lib.hid (show fixV V = 65533 from by unfold fixV; rw [if_pos (by omega)])
      have t1 : ((V : Int) == 0) = false := flsI _ _ (by omega)
      have t2 : (55296 : Int) ≤ (V : Int) := by omega
      have t3 : (V : Int) ≤ 57343 := by omega
      go_wp2_with fail
      go_ret2
      exact ⟨by rw [HE.out, HFX.out, HE2.out]; rfl, Below.refl _ _⟩
    by_cases w3 : V ≤ 1114111
    · have HFX := Lib.hid (show fixV V = V from by unfold fixV; rw [if_neg (by omega)])
      have t1 : ((V : Int) == 0) = false := flsI _ _ (by omega)
      have t2 : (55296 : Int) ≤ (V : Int) := by omega
      have t3 : ¬ (V : Int) ≤ 57343 := by omega
      have t4 : ¬ (1114111 : Int) < (V : Int) := by omega
      go_wp2_with fail
      go_ret2
      exact ⟨by rw [HE.out, HFX.out, HE2.out]; rfl, Below.refl _ _⟩
    · have HFX := Lib.hid (show fixV V = 65533 from by unfold fixV; rw [if_pos (by omega)])
      have t1 : ((V : Int) == 0) = false := flsI _ _ (by omega)
      have t2 : (55296 : Int) ≤ (V : Int) := by omega
      have t3 : ¬ (V : Int) ≤ 57343 := by omega
      have t4 : (1114111 : Int) < (V : Int) := by omega
      go_wp2_with fail
      go_ret2
      exact ⟨by rw [HE.out, HFX.out, HE2.out]; rfl, Below.refl _ _⟩
end Go.Proofs.YtocciemgdikmjaaDoor
