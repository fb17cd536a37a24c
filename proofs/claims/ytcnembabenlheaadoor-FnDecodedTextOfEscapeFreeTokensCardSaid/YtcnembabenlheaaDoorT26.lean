/-
  Token.DecodedText of a url token: white space cut off at both ends.
-/
import Derived.Test.YtcnembabenlheaaDoorT25
namespace Go.Proofs.YtcnembabenlheaaDoor
open Go.ChangeShapes Go.WideShapes Go.ChangeAt Go.RowKit
open Go.Lib (encodeRuneZ encodeRuneZ_length)
set_option linter.unusedVariables false
theorem ws36 (c : Int) (w : World) : Calls Tryd.prog 36 #[.int .i32 c] w fun e w' => e = .returned (.bool (isW c)) ∧ w = w' := by
  by_cases h : c = 32 ∨ c = 9 ∨ c = 10 ∨ c = 13 ∨ c = 12
  · have e : isW c = true := by simp [isW, h]
    rw [e]
    rcases h with rfl | rfl | rfl | rfl | rfl
    all_goals
      go_enter Tryd.func36, Tryd.ntmps36
      go_wp2_with fail
      go_ret
      exact ⟨rfl, rfl⟩
  · have e : isW c = false := by simp [isW, h]
    have e1 : (c == 32) = false := by rw [beq_eq_false_iff_ne]; omega
    have e2 : (c == 9) = false := by rw [beq_eq_false_iff_ne]; omega
    have e3 : (c == 10) = false := by rw [beq_eq_false_iff_ne]; omega
    have e4 : (c == 13) = false := by rw [beq_eq_false_iff_ne]; omega
    have e5 : (c == 12) = false := by rw [beq_eq_false_iff_ne]; omega
    rw [e]
    clear h e
    go_enter Tryd.func36, Tryd.ntmps36
    go_wp2_with fail
    go_ret
    exact ⟨rfl, rfl⟩
set_option maxRecDepth 100000 in
set_option maxHeartbeats 4000000 in
theorem dt30_url (Cn R : ByteArray) (st ln E : Nat) (un kind fl : Int) (hk : kind = 37) (hC : Cn.size ≤ 1048576) (hE : st + ln = E) (hsl : E ≤ Cn.size) (hR : Cn.extract st E = R) (w : World) (hT : Lib.Utf8Tabs 0 1 w) (res : ByteArray) (I : ByteArray) (n a m z : Nat) (hn : R.size = n) (hnz : n = 5 + a + m + z) (hn2 : n ≤ 1048576) (hlast : byt R (n - 1) = 41) (hA : ∀ i, i < a → isW (byt R (4 + i)) = true) (hZ : ∀ i, i < z → isW (byt R (4 + a + m + i)) = true) (hm : m = 0 → z = 0) (hM1 : 0 < m → isW (byt R (4 + a)) = false) (hM2 : 0 < m → isW (byt R (3 + a + m)) = false) (hI : R.extract (4 + a) (4 + a + m) = I)
    (H : ∀ W, Lib.Utf8Tabs 0 1 W → Calls Tryd.prog 35 #[.string I] W fun e w' => e = .returned (.string res) ∧ Below W.heap.size W w') :
    Calls Tryd.prog 30 #[.agg #[.int .i32 st, .int .i32 ln, .int .u16 un, .int .u8 kind, .int .u8 fl], .string Cn] w fun e w' => e = .returned (.string res) ∧ Below w.heap.size w w' := by
  have HKD := Lib.hid hk
  clear hk
  have hE' : (st : Int) + (ln : Int) = (E : Int) := by omega
  have hl1 : st ≤ E := by omega
  have HT := Lib.hid hT; have HH := Lib.hid H; have HNN := Lib.hid hn; have HA := Lib.hid hA; have HZ := Lib.hid hZ; have HM1 := Lib.hid hM1; have HM2 := Lib.hid hM2; have HI := Lib.hid hI; have HLA := Lib.hid hlast; have HNZ := Lib.hid hnz; have HMM := Lib.hid hm
  have HN := Lib.hid (en34 st ln (by omega) (by omega) (by omega))
  rw [hE'] at HN
  have hE2 : (E : Int) ≤ 2147483647 := by omega
  clear hT hE hE' H hn hA hZ hM1 hM2 hI hlast hnz hm
  go_enter Tryd.func30, Tryd.ntmps30
  go_wp2_with fail
  go_cut [5] (fun v wx => v = .string R ∧ Hid (AftR w kind wx))
  case first =>
    go_region_with ((go_at_call 34; refine (HN.out _).mono ?_; rintro e w1 ⟨rfl, be⟩; have KB := Lib.hid (((Below.refl w.heap.size w).alloc (Nat.le_refl _) (Obj.cells #[.int .i32 st, .int .i32 ln, .int .u16 un, .int .u8 kind, .int .u8 fl] 64)).drew.trans (be.mono (by simp [World.drew]))); have e0 : w1.cell? ⟨w.heap.size, 0, none⟩ = some (.int .i32 st) := (be.cell (p := ⟨w.heap.size, 0, none⟩) (by simp [World.drew])).trans (show (w.alloc (.cells #[.int .i32 st, .int .i32 ln, .int .u16 un, .int .u8 kind, .int .u8 fl] 64)).drew.cell? ⟨w.heap.size, 0, none⟩ = some (.int .i32 st) from tokc w #[.int .i32 st, .int .i32 ln, .int .u16 un, .int .u8 kind, .int .u8 fl] 0); have E3 := Lib.hid (show w1.cell? ⟨w.heap.size, 3, none⟩ = some (.int .u8 kind) from (be.cell (p := ⟨w.heap.size, 3, none⟩) (by simp [World.drew])).trans (show (w.alloc (.cells #[.int .i32 st, .int .i32 ln, .int .u16 un, .int .u8 kind, .int .u8 fl] 64)).drew.cell? ⟨w.heap.size, 3, none⟩ = some (.int .u8 kind) from tokc w #[.int .i32 st, .int .i32 ln, .int .u16 un, .int .u8 kind, .int .u8 fl] 3)); clear be))
    all_goals
      go_wp2_with fail
      go_meet
      exact ⟨rfl, Lib.hid ⟨KB.out, E3.out⟩⟩
  case rest =>
    obtain ⟨rfl, hA⟩ := hcut
    obtain ⟨hB, e3⟩ := hA.out
    have KB := Lib.hid hB
    clear hB hA hR
    have hn := HNN.out
    have hk := HKD.out
    subst hk
    obtain ⟨L, hL⟩ : ∃ L, n - 1 = L := ⟨_, rfl⟩
    have hL' : (n : Int) - 1 = (L : Int) := by have := HNZ.out; omega
    have hLn : L < R.size := by have := HNZ.out; omega
    have hLn2 : L < n := by have := HNZ.out; omega
    have hb41 : (R[L]'hLn).toNat = 41 := by rw [byt_at R L hLn, ← hL]; exact HLA.out
    have e41 : (((R[L]'hLn).toNat : Int) == 41) = true := by rw [beq_iff_eq]; omega
    have HL := Lib.hid (show L = 4 + a + m + z by have := HNZ.out; omega)
    clear hb41 hL
    go_wp2_with fail
    go_loopw [6] (fun iv w' => ∃ i : Nat, iv = .int .i64 (4 + i : Nat) ∧ wc = w' ∧ i ≤ a) (fun iv w' => L - (intOf iv).toNat)
    case atStart => exact ⟨0, rfl, rfl, by omega⟩
    case round =>
      obtain ⟨i, rfl, rfl, hi⟩ := hrel
      obtain ⟨I1, hI1⟩ : ∃ I1, 4 + i = I1 := ⟨_, rfl⟩
      rw [hI1]
      have HI1 := Lib.hid hI1
      by_cases hia : i < a
      · have hlt : I1 < L := by have := HL.out; omega
        have hlR : I1 < R.size := by omega
        have hlR2 : I1 < n := by omega
        have HB := Lib.hid (byt_at R I1 hlR)
        obtain ⟨C, hC⟩ : ∃ C, (R[I1]'hlR).toNat = C := ⟨_, rfl⟩
        have hC' : ((R[I1]'hlR).toNat : Int) = (C : Int) := by omega
        have HCq := Lib.hid (show byt R I1 = C by rw [← HB.out]; exact hC)
        have hC255 : C < 256 := by rw [← HCq.out]; exact byt_lt _ _
        have HW := Lib.hid (show isW (C : Int) = true by have := HA.out i hia; rw [HI1.out, HCq.out] at this; exact this)
        obtain ⟨J, hJ⟩ : ∃ J, I1 + 1 = J := ⟨_, rfl⟩
        have hJ' : (I1 : Int) + 1 = (J : Int) := by omega
        clear hC hI1
        go_wp2_with fail
        refine (ws36 (C : Int) _).mono ?_
        rintro e w3 ⟨rfl, rfl⟩
        rw [HW.out]
        dsimp only
        go_wp2_with fail
        go_roundw
        case rel => exact ⟨i + 1, by rw [show 4 + (i + 1) = J by have := HI1.out; omega], by trivial, by omega⟩
        case measure => simp only [intOf]; omega
      obtain rfl : i = a := by omega
      by_cases hm0 : m = 0
      · have hz0 := HMM.out hm0
        obtain rfl : I1 = L := by have := HL.out; omega
        obtain rfl : ByteArray.empty = I := by have := HI.out; rw [hm0, Nat.add_zero, hI1] at this; rw [← this]; exact ByteArray.extract_same.symm
        clear HI
        have hIR : I1 ≤ n := by omega
        clear hI1 hm0 hz0
        go_wp2_with fail
        go_loopw [7] (fun ev w' => ev = .int .i64 I1 ∧ wc = w') (fun ev w' => 0)
        case atStart => exact ⟨rfl, rfl⟩
        case round =>
          obtain ⟨rfl, rfl⟩ := hrel
          go_wp2_with fail
          refine (HH.out _ (tabs_below HT.out KB.out)).mono ?_
          rintro e w2 ⟨rfl, be⟩
          have K2 := Lib.hid (KB.out.trans (be.mono KB.out.size))
          clear be
          dsimp only
          go_wp2_with fail
          go_ret
          exact ⟨rfl, K2.out⟩
      have hmp : 0 < m := by omega
      have hlt : I1 < L := by have := HL.out; omega
      have hlR : I1 < R.size := by omega
      have hlR2 : I1 < n := by omega
      have HB := Lib.hid (byt_at R I1 hlR)
      obtain ⟨C, hC⟩ : ∃ C, (R[I1]'hlR).toNat = C := ⟨_, rfl⟩
      have hC' : ((R[I1]'hlR).toNat : Int) = (C : Int) := by omega
      have HCq := Lib.hid (show byt R I1 = C by rw [← HB.out]; exact hC)
      have hC255 : C < 256 := by rw [← HCq.out]; exact byt_lt _ _
      have HW := Lib.hid (show isW (C : Int) = false by have := HM1.out hmp; rw [HI1.out, HCq.out] at this; exact this)
      obtain ⟨U, hU⟩ : ∃ U, I1 + m = U := ⟨_, rfl⟩
      have hxI : R.extract I1 U = I := by have := HI.out; rw [hI1, hU] at this; exact this
      have HUq := Lib.hid hU
      have hIU : I1 < U := by omega
      have hIU2 : I1 ≤ U := by omega
      have hUL : U ≤ L := by have := HL.out; omega
      have hUn : U ≤ n := by omega
      clear hC hI1 hU hm0 hia
      go_wp2_with fail
      refine (ws36 (C : Int) _).mono ?_
      rintro e w3 ⟨rfl, rfl⟩
      rw [HW.out]
      dsimp only
      go_wp2_with fail
      go_loopw [7] (fun ev w' => ∃ j : Nat, ev = .int .i64 (U + j : Nat) ∧ wc = w' ∧ j ≤ z) (fun ev w' => (intOf ev).toNat)
      case atStart => exact ⟨z, by rw [show U + z = L by have := HL.out; have := HUq.out; have := HI1.out; omega], rfl, Nat.le_refl _⟩
      case round =>
        obtain ⟨j, rfl, rfl, hj⟩ := hrel
        cases j with
        | zero =>
          have hpR : U - 1 < R.size := by omega
          have HB2 := Lib.hid (byt_at R (U - 1) hpR)
          obtain ⟨V, hV⟩ : ∃ V, U - 1 = V := ⟨_, rfl⟩
          have hV' : (U : Int) - 1 = (V : Int) := by omega
          have hVR : V < R.size := by omega
          have hVR2 : V < n := by omega
          have HB2 := Lib.hid (byt_at R V hVR)
          obtain ⟨C2, hC2⟩ : ∃ C, (R[V]'hVR).toNat = C := ⟨_, rfl⟩
          have hC2' : ((R[V]'hVR).toNat : Int) = (C2 : Int) := by omega
          have HCq2 := Lib.hid (show byt R V = C2 by rw [← HB2.out]; exact hC2)
          have hC2255 : C2 < 256 := by rw [← HCq2.out]; exact byt_lt _ _
          have HW2 := Lib.hid (show isW (C2 : Int) = false by have := HM2.out hmp; rw [show 3 + i + m = V by have := HUq.out; have := HI1.out; omega, HCq2.out] at this; exact this)
          rw [Nat.add_zero]
          clear hC2 hV
          go_wp2_with fail
          refine (ws36 (C2 : Int) _).mono ?_
          rintro e w4 ⟨rfl, rfl⟩
          rw [HW2.out]
          dsimp only
          go_wp2_with fail
          refine (HH.out _ (tabs_below HT.out KB.out)).mono ?_
          rintro e w2 ⟨rfl, be⟩
          have K2 := Lib.hid (KB.out.trans (be.mono KB.out.size))
          clear be
          dsimp only
          go_wp2_with fail
          go_ret
          exact ⟨rfl, K2.out⟩
        | succ j =>
          obtain ⟨T, hTq⟩ : ∃ T, U + (j + 1) = T := ⟨_, rfl⟩
          obtain ⟨V, hV⟩ : ∃ V, U + j = V := ⟨_, rfl⟩
          have hV' : (T : Int) - 1 = (V : Int) := by omega
          have hTL : T ≤ L := by have := HL.out; have := HUq.out; have := HI1.out; omega
          have hIT : I1 < T := by omega
          have hVR : V < R.size := by omega
          have hVR2 : V < n := by omega
          have HB2 := Lib.hid (byt_at R V hVR)
          obtain ⟨C2, hC2⟩ : ∃ C, (R[V]'hVR).toNat = C := ⟨_, rfl⟩
          have hC2' : ((R[V]'hVR).toNat : Int) = (C2 : Int) := by omega
          have HCq2 := Lib.hid (show byt R V = C2 by rw [← HB2.out]; exact hC2)
          have hC2255 : C2 < 256 := by rw [← HCq2.out]; exact byt_lt _ _
          have HW2 := Lib.hid (show isW (C2 : Int) = true by have := HZ.out j (by omega); rw [show 4 + i + m + j = V by have := HUq.out; have := HI1.out; omega, HCq2.out] at this; exact this)
          rw [hTq]
          have HVq := Lib.hid hV
          have hVT : V < T := by omega
          clear hC2 hV hTq
          go_wp2_with fail
          refine (ws36 (C2 : Int) _).mono ?_
          rintro e w4 ⟨rfl, rfl⟩
          rw [HW2.out]
          dsimp only
          go_wp2_with fail
          go_roundw
          case rel => exact ⟨j, by rw [HVq.out], by trivial, by omega⟩
          case measure => simp only [intOf]; omega
end Go.Proofs.YtcnembabenlheaaDoor
