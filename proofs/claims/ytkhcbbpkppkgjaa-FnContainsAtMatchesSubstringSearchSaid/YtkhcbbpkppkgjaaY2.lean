/-
  Contracts: strings.HasPrefix, containsAtPreserveOrAtLicense, zzContains, zzCountByte.
-/
import Derived.Test.YtkhcbbpkppkgjaaRows
import Derived.Test.YtkhcbbpkppkgjaaYP
import Derived.WalkKit
import Derived.ProofKit
import Derived.OpenShut
import Derived.Lib.Hide
import Derived.Outline
import Derived.WalkLawsBesides
import Derived.Laws.Tables
import Derived.Great.BuildSlice
import Derived.Deep.QuietTactic
import Derived.Deep.Draws
import Derived.BigQuiet
import Derived.Deep.RegionWith
import Derived.Laws.RangeString
import Derived.Laws.RangeAny
namespace Go.Proofs.Ytkhcbbpkppkgjaa
open Go.ChangeShapes Go.WideShapes Go.ChangeAt Go.RowKit
set_option linter.unusedVariables false
theorem ret_bool {a b : Bool} (h : a = b) : Ending.returned (.bool a) = .returned (.bool b) := by rw [h]
def preB (x p : ByteArray) : Bool := decide (p.size ≤ x.size) && decide (x.extract 0 p.size = p)
set_option maxRecDepth 100000 in
theorem pre12 (x p : ByteArray) (hx : x.size ≤ maxLen) (hp : p.size ≤ maxLen) (w : World) : Calls Try.prog 12 #[.string x, .string p] w fun e w' => e = .returned (.bool (preB x p)) ∧ w = w' := by
  unfold maxLen at hx hp
  by_cases h : p.size ≤ x.size
  · have HR := Lib.hid (show preB x p = ((x.extract 0 p.size).toList == p.toList) by unfold preB; rw [decide_eq_true h, Bool.true_and, Bool.eq_iff_iff, decide_eq_true_eq, beq_iff_eq, ByteArray.toList_eq, ByteArray.toList_eq]; exact ⟨fun h => by rw [h], fun h => ByteArray.ext (Array.ext' h)⟩)
    go_enter Try.func12, Try.ntmps12
    go_wp2
    go_ret
    exact ⟨ret_bool HR.out.symm, rfl⟩
  · have HR := Lib.hid (show preB x p = false by simp [preB, h])
    go_enter Try.func12, Try.ntmps12
    go_wp2
    go_ret
    exact ⟨ret_bool HR.out.symm, rfl⟩
set_option maxRecDepth 100000 in
theorem pre11 (x p : ByteArray) (hx : x.size ≤ maxLen) (hp : p.size ≤ maxLen) (w : World) : Calls Try.prog 11 #[.string x, .string p] w fun e w' => e = .returned (.bool (preB x p)) ∧ w = w' := by
  have H := Lib.hid (pre12 x p hx hp w)
  clear hx hp
  go_enter Try.func11, Try.ntmps11
  go_wp2_with (go_at_call 12; refine (H.out).mono ?_; rintro e w1 ⟨rfl, rfl⟩)
  go_ret
  exact ⟨rfl, rfl⟩
abbrev kP : ByteArray := ⟨#[112, 114, 101, 115, 101, 114, 118, 101]⟩
abbrev kL : ByteArray := ⟨#[108, 105, 99, 101, 110, 115, 101]⟩
abbrev aP : ByteArray := ⟨#[64, 112, 114, 101, 115, 101, 114, 118, 101]⟩
abbrev aL : ByteArray := ⟨#[64, 108, 105, 99, 101, 110, 115, 101]⟩
def HitAt (s : ByteArray) (i : Nat) : Prop := Occ s aP i ∨ Occ s aL i
theorem preB_occ (s p : ByteArray) (i : Nat) (hi : i ≤ s.size) : preB (s.extract i s.size) p = true ↔ Occ s p i := by
  unfold preB
  rw [Bool.and_eq_true, decide_eq_true_eq, decide_eq_true_eq]
  exact occ_extract s p i hi
theorem hit_iff (s : ByteArray) (i : Nat) (h : i < s.size) : HitAt s i ↔ s[i]'h = 64 ∧ (preB (s.extract (i + 1) s.size) kP = true ∨ preB (s.extract (i + 1) s.size) kL = true) := by
  unfold HitAt
  rw [preB_occ s kP (i + 1) (by omega), preB_occ s kL (i + 1) (by omega), occ_cons s kP aP 64 rfl i, occ_cons s kL aL 64 rfl i]
  constructor
  · rintro (⟨_, h1, h2⟩ | ⟨_, h1, h2⟩)
    · exact ⟨h1, Or.inl h2⟩
    · exact ⟨h1, Or.inr h2⟩
  · rintro ⟨h1, h2 | h2⟩
    · exact Or.inl ⟨h, h1, h2⟩
    · exact Or.inr ⟨h, h1, h2⟩
theorem hit_lt (s : ByteArray) (i : Nat) (h : HitAt s i) : i < s.size := by
  rcases h with h | h
  · have := occ_fits s aP i (by decide) h; have e : aP.size = 9 := rfl; omega
  · have := occ_fits s aL i (by decide) h; have e : aL.size = 8 := rfl; omega
/-- one rune further: no hit lies within it, if none lies at its first byte -/
theorem hits_next (s : ByteArray) (pos : Nat) (h : pos < s.size) (hn : ∀ k, k < pos → ¬ HitAt s k) (h0 : ¬ HitAt s pos) : ∀ k, k < pos + (Utf8.decode s pos).2 → ¬ HitAt s k := by
  intro k hk
  by_cases h1 : k < pos
  · exact hn k h1
  by_cases h2 : k = pos
  · subst h2; exact h0
  by_cases ha : (s[pos]'h).toNat < 128
  · rw [decode_ascii s pos h ha] at hk
    simp at hk; omega
  · obtain ⟨h', hw⟩ := decode_wide s pos h (by omega) (k - pos) (by omega) (by omega)
    have e : pos + (k - pos) = k := by omega
    simp only [e] at h' hw
    intro hh
    have := ((hit_iff s k h').1 hh).1
    rw [this] at hw
    simp at hw
set_option maxRecDepth 100000 in
set_option maxHeartbeats 2000000 in
theorem cat10 (s : ByteArray) (hs : s.size ≤ 1048599) (w : World) : Calls Try.prog 10 #[.string s] w fun e w' => (∃ b, e = .returned (.bool b) ∧ (b = true ↔ ∃ i, HitAt s i)) ∧ Below w.heap.size w w' := by
  have HB := Lib.hid (fun pos => ((Below.refl w.heap.size w).alloc (Nat.le_refl _) (.stringIter s pos) : Below w.heap.size w (w.iter s pos)))
  go_enter Try.func10, Try.ntmps10
  go_wp2_with fail
  go_loopw [] (fun w' => ∃ pos, w' = w.iter s pos ∧ ∀ k, k < pos → ¬ HitAt s k) (fun w' => s.size - w'.iterPos w.heap.size)
  case atStart => exact ⟨0, rfl, fun k hk => absurd hk (by omega)⟩
  case round =>
    obtain ⟨pos, rfl, hn⟩ := hrel
    have HN := Lib.hid hn; clear hn
    by_cases hp : pos < s.size
    · have hnx0 := fun ty => run_next_any (P := Try.prog) w s pos ty hp
      have hwd := width_pos s pos hp
      have hnxt := hits_next s pos hp HN.out
      by_cases hd : (Utf8.decode s pos).1 = 64
      · have hsp : (s[pos]'hp) = 64 := by
          by_cases ha : (s[pos]'hp).toNat < 128
          · rw [decode_ascii s pos hp ha] at hd
            apply UInt8.toNat.inj
            exact hd
          · have := (decode_high s pos hp (by omega)).1; omega
        have hH := hit_iff s pos hp
        obtain ⟨K, hK⟩ : ∃ K, (Utf8.decode s pos).2 = K := ⟨_, rfl⟩
        rw [hd, hK] at hnx0
        rw [hK] at hwd hnxt
        have hnx : ∀ ty, (Instr.next (.pointer (some ⟨w.heap.size, 0, none⟩)) true ty).run Try.prog (w.iter s pos) = .ok (.tuple #[.bool true, .int .i64 pos, .int .i32 64]) (w.iter s (pos + K)) := hnx0
        obtain ⟨x, hx⟩ : ∃ x, s.extract (pos + 1) s.size = x := ⟨_, rfl⟩
        have hxs : x.size ≤ maxLen := by rw [← hx]; simp [maxLen]; omega
        rw [hx] at hH
        have HX := Lib.hid hx; have HH := Lib.hid hH; have HNX := Lib.hid hnxt; have HSP := Lib.hid hsp
        clear hnx0 hd hH hx hnxt hsp hK
        have H1 := Lib.hid (fun w => pre11 x kP hxs (by decide) w)
        have H2 := Lib.hid (fun w => pre11 x kL hxs (by decide) w)
        clear hxs
        cases hP : preB x kP
        · cases hL : preB x kL
          · rw [hP] at H1
            rw [hL] at H2
            have HH0 := Lib.hid (show ¬ HitAt s pos by rw [HH.out, hP, hL]; simp)
            clear HH HSP hP hL
            go_wp2_with (first | (go_at_call 11; rw [HX.out]; refine (H1.out _).mono ?_; rintro e w1 ⟨rfl, rfl⟩) | (go_at_call 11; rw [HX.out]; refine (H2.out _).mono ?_; rintro e w1 ⟨rfl, rfl⟩))
            go_roundw
            case rel => exact ⟨_, rfl, HNX.out HH0.out⟩
            case measure => simp; omega
          · rw [hP] at H1
            rw [hL] at H2
            have HH0 := Lib.hid (show HitAt s pos by rw [HH.out, hP, hL]; exact ⟨HSP.out, Or.inr rfl⟩)
            clear HH HSP hP hL
            go_wp2_with (first | (go_at_call 11; rw [HX.out]; refine (H1.out _).mono ?_; rintro e w1 ⟨rfl, rfl⟩) | (go_at_call 11; rw [HX.out]; refine (H2.out _).mono ?_; rintro e w1 ⟨rfl, rfl⟩))
            go_ret
            exact ⟨⟨true, rfl, fun _ => ⟨_, HH0.out⟩, fun _ => rfl⟩, HB.out _⟩
        · rw [hP] at H1
          have HH0 := Lib.hid (show HitAt s pos by rw [HH.out, hP]; exact ⟨HSP.out, Or.inl rfl⟩)
          clear HH HSP hP
          go_wp2_with (go_at_call 11; rw [HX.out]; refine (H1.out _).mono ?_; rintro e w1 ⟨rfl, rfl⟩)
          go_ret
          exact ⟨⟨true, rfl, fun _ => ⟨_, HH0.out⟩, fun _ => rfl⟩, HB.out _⟩
      · have hH : ¬ HitAt s pos := by
          intro hh
          have h1 := ((hit_iff s pos hp).1 hh).1
          apply hd
          have ha : (s[pos]'hp).toNat < 128 := by rw [h1]; decide
          rw [decode_ascii s pos hp ha, h1]; rfl
        have hN2 := hnxt hH
        obtain ⟨c, hc⟩ : ∃ c, (Utf8.decode s pos).1 = c := ⟨_, rfl⟩
        obtain ⟨K, hK⟩ : ∃ K, (Utf8.decode s pos).2 = K := ⟨_, rfl⟩
        rw [hc] at hd
        rw [hc, hK] at hnx0
        rw [hK] at hwd hN2
        have d : ((c : Int) == 64) = false := by simp; omega
        have HN2 := Lib.hid hN2
        have hnx : ∀ ty, (Instr.next (.pointer (some ⟨w.heap.size, 0, none⟩)) true ty).run Try.prog (w.iter s pos) = .ok (.tuple #[.bool true, .int .i64 pos, .int .i32 c]) (w.iter s (pos + K)) := hnx0
        clear hnx0 hN2 hH hnxt hc hK hd
        go_wp2_with fail
        go_roundw
        case rel => exact ⟨_, rfl, HN2.out⟩
        case measure => simp; omega
    · have hnx := fun ty => run_next_end (P := Try.prog) w s pos ty hp
      go_wp2_with fail
      go_ret
      refine ⟨⟨false, rfl, fun h => (by cases h), fun ⟨i, hi⟩ => ?_⟩, HB.out _⟩
      exact absurd hi (HN.out i (Nat.lt_of_lt_of_le (hit_lt s i hi) (Nat.le_of_not_lt hp)))
end Go.Proofs.Ytkhcbbpkppkgjaa
