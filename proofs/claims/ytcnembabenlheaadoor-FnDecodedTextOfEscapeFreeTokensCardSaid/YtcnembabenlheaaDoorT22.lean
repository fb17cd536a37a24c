/-
  Rows of runes that came in; zzIsWS, zzCleaned, zzBytes.
-/
import Derived.Test.YtcnembabenlheaaDoorT21
namespace Go.Proofs.YtcnembabenlheaaDoor
open Go.ChangeShapes Go.WideShapes Go.ChangeAt Go.RowKit
open Go.Lib (encodeRuneZ encodeRuneZ_length)
set_option linter.unusedVariables false
/-- v is a slice that holds the numbers xs -/
def Ints (w : World) (v : Value) (xs : List Int) : Prop := ∃ p c, v = .slice p xs.length c ∧ xs.length ≤ c ∧ ∀ i, i < xs.length → ∃ a, p = some a ∧ w.cell? (a.add i) = some (.int .i32 (xs.getD i 0))
theorem Ints.keep {w w' : World} {v : Value} {xs : List Int} (h : Ints w v xs) (hb : Below w.heap.size w w') : Ints w' v xs := by
  obtain ⟨p, c, e, hc, hi⟩ := h
  refine ⟨p, c, e, hc, fun i h => ?_⟩
  obtain ⟨a, ha, hc⟩ := hi i h
  exact ⟨a, ha, by rw [hb.cell (block_lt_of_cell hc)]; exact hc⟩
theorem IsRow.ints {w : World} {a : Option Addr} {len cap : Nat} {z : List Int} (h : IsRow .i32 w a len cap z) : Ints w (.slice a len cap) (z.take len) ∧ (z.take len).length = len := by
  rcases h with ⟨rfl, rfl, rfl, rfl⟩ | ⟨x, rfl, h1, h2, h3, h4, h5⟩
  · exact ⟨⟨none, 0, rfl, by simp, fun i hi => absurd hi (by simp)⟩, rfl⟩
  · have hl : (z.take len).length = len := by simp; omega
    refine ⟨⟨some x, cap, by rw [hl], by omega, fun i hi => ⟨x, rfl, ?_⟩⟩, hl⟩
    rw [h4 i (by omega)]
    simp [List.getD, show i < len by omega]
theorem ws28 (c : Int) (w : World) : Calls Tryd.prog 28 #[.int .i32 c] w fun e w' => e = .returned (.bool (isW c)) ∧ w = w' := by
  by_cases h : c = 32 ∨ c = 9 ∨ c = 10 ∨ c = 13 ∨ c = 12
  · have e : isW c = true := by simp [isW, h]
    rw [e]
    rcases h with rfl | rfl | rfl | rfl | rfl
    all_goals
      go_enter Tryd.func28, Tryd.ntmps28
      go_wp2_with fail
      go_ret
      exact ⟨rfl, rfl⟩
  · have e : isW c = false := by simp [isW, h]
    have e1 : (c == 32) = false := by rw [beq_eq_false_iff_ne]; omega
    have e2 : (c == 9) = false := by rw [beq_eq_false_iff_ne]; omega
    have e3 : (c == 10) = false := by rw [beq_eq_false_iff_ne]; omega
    have e4 : (c == 13) = false := by rw [beq_eq_false_iff_ne]; omega
    have e5 : (c == 12) = false := by rw [beq_eq_false_iff_ne]; omega
    rw [e]
    clear h e
    go_enter Tryd.func28, Tryd.ntmps28
    go_wp2_with fail
    go_ret
    exact ⟨rfl, rfl⟩
theorem zb26 (p q : ByteArray) (sel : Int) (w : World) (v : Value) (xs : List Int) (h : Ints w v xs) : Calls Tryd.prog 26 #[.string p, v, .string q, .int .u8 sel] w fun e w' => (∃ b, e = .returned (.bool b)) ∧ w = w' := by
  obtain ⟨pa, c, rfl, hc, _⟩ := h
  by_cases h1 : p.size ≤ 1048576
  · by_cases h2 : xs.length ≤ 1048576
    · by_cases h3 : p.size + xs.length ≤ 1048576
      · by_cases h4 : q.size ≤ 1048576
        · by_cases h5 : p.size + xs.length + q.size ≤ 1048576
          all_goals
            go_enter Tryd.func26, Tryd.ntmps26
            go_wp2_with fail
            go_ret
            exact ⟨⟨_, rfl⟩, rfl⟩
        · go_enter Tryd.func26, Tryd.ntmps26
          go_wp2_with fail
          go_ret
          exact ⟨⟨_, rfl⟩, rfl⟩
      · go_enter Tryd.func26, Tryd.ntmps26
        go_wp2_with fail
        go_ret
        exact ⟨⟨_, rfl⟩, rfl⟩
    · go_enter Tryd.func26, Tryd.ntmps26
      go_wp2_with fail
      go_ret
      exact ⟨⟨_, rfl⟩, rfl⟩
  · go_enter Tryd.func26, Tryd.ntmps26
    go_wp2_with fail
    go_ret
    exact ⟨⟨_, rfl⟩, rfl⟩
def RelZ (w : World) (seg : List Int) (sl : Value) (k : Nat) (w' : World) : Prop := ∃ pre : List Int, OwnB w' w.heap.size sl pre ∧ Below w.heap.size w w' ∧ pre = encs ((seg.take k).map clean)
theorem take_next (seg : List Int) (k : Nat) (h : k < seg.length) : encs ((seg.take (k + 1)).map clean) = encs ((seg.take k).map clean) ++ encodeRuneZ (clean (seg.getD k 0)) := by
  rw [List.take_succ_eq_append_getElem h, List.map_append, encs_app]
  simp [encs, List.getD, h]
set_option maxRecDepth 100000 in
set_option maxHeartbeats 4000000 in
/-- zzCleaned over a part of the row -/
theorem zc29 (w : World) (v : Value) (rs seg : List Int) (lo n : Nat) (hv : Ints w v rs) (hseg : seg.length = n) (hs : ∀ k, k < n → seg.getD k 0 = rs.getD (lo + k) 0) (hlo : lo + n ≤ rs.length) (hn : rs.length ≤ 65536) :
    Calls Tryd.prog 29 #[v, .int .i64 lo, .int .i64 (lo + n : Nat)] w fun e w' => ∃ v', e = .returned v' ∧ OwnB w' w.heap.size v' (encs (seg.map clean)) ∧ Below w.heap.size w w' := by
  have HV := Lib.hid hv; have HS := Lib.hid hs; have HG := Lib.hid hseg
  obtain ⟨pa, cp, rfl, hc, _⟩ := hv
  obtain ⟨N, hN⟩ : ∃ N, lo + n = N := ⟨_, rfl⟩
  rw [hN]
  have HN := Lib.hid hN
  obtain ⟨m, hm⟩ : ∃ m, rs.length = m := ⟨_, rfl⟩
  rw [hm] at hc hlo hn ⊢
  have HM := Lib.hid hm
  clear hs hseg hm
  go_enter Tryd.func29, Tryd.ntmps29
  go_wp2_with fail
  go_loopw [7, 8] (fun sl iv w' => ∃ k : Nat, iv = .int .i64 (lo + k : Nat) ∧ k ≤ n ∧ Hid (RelZ w seg sl k w')) (fun sl iv w' => N - (intOf iv).toNat)
  case atStart => exact ⟨0, by simp, by omega, Lib.hid ⟨[], by exact World.ownsRow_nil _ _ _ _, Below.refl _ _, by simp [encs]⟩⟩
  case round =>
    obtain ⟨k, rfl, hk, HR⟩ := hrel
    obtain ⟨pre, hO, hB, hp⟩ := HR.out
    have HO := Lib.hid hO; have KB := Lib.hid hB; have HP := Lib.hid hp
    clear hO hB hp HR
    obtain ⟨I, hI⟩ : ∃ I, lo + k = I := ⟨_, rfl⟩
    rw [hI]
    have HIq := Lib.hid hI
    by_cases hlt : k < n
    · have hIN : I < N := by omega
      have hIm : I < m := by omega
      obtain ⟨p2, c2, hsl, _, hcell⟩ := HV.out.keep KB.out
      obtain ⟨x, rfl, hx⟩ := hcell I (by have := HM.out; omega)
      obtain rfl : pa = some x := by injection hsl
      obtain ⟨c, hcq⟩ : ∃ c, rs.getD I 0 = c := ⟨_, rfl⟩
      rw [hcq] at hx
      have HC := Lib.hid (show seg.getD k 0 = c by rw [HS.out k hlt, hI]; exact hcq)
      obtain ⟨J, hJ⟩ : ∃ J, I + 1 = J := ⟨_, rfl⟩
      have hJ' : (I : Int) + 1 = (J : Int) := by omega
      have hpl : pre.length ≤ 4194304 := by
        rw [HP.out]
        have := encs_len ((seg.take k).map clean)
        rw [List.length_map, List.length_take] at this
        have h3 := HG.out
        omega
      have HPL := Lib.hid hpl
      clear hsl hcell hcq hI hpl
      by_cases h0 : c = 0
      · subst h0
        go_wp2_with fail
        refine (pr27 _ w.heap.size _ pre 65533 HO.out KB.out.size HPL.out).mono ?_
        rintro e w2 ⟨v2, rfl, ho, hb⟩
        have O2 := Lib.hid ho; have K2 := Lib.hid (KB.out.trans hb)
        clear ho hb
        dsimp only
        go_wp2_with fail
        go_roundw
        case rel => exact ⟨k + 1, by rw [show lo + (k + 1) = J by have := HIq.out; omega], by omega, Lib.hid ⟨_, O2.out, K2.out, by rw [take_next seg k (by have := HG.out; omega), HC.out, HP.out]; rfl⟩⟩
        case measure => simp only [intOf]; omega
      · have e0 : (c == 0) = false := by rw [beq_eq_false_iff_ne]; exact h0
        have HNE := Lib.hid h0
        clear h0
        go_wp2_with fail
        refine (pr27 _ w.heap.size _ pre c HO.out KB.out.size HPL.out).mono ?_
        rintro e w2 ⟨v2, rfl, ho, hb⟩
        have O2 := Lib.hid ho; have K2 := Lib.hid (KB.out.trans hb)
        clear ho hb
        dsimp only
        go_wp2_with fail
        go_roundw
        case rel => exact ⟨k + 1, by rw [show lo + (k + 1) = J by have := HIq.out; omega], by omega, Lib.hid ⟨_, O2.out, K2.out, by rw [take_next seg k (by have := HG.out; omega), HC.out, HP.out]; simp [clean, HNE.out]⟩⟩
        case measure => simp only [intOf]; omega
    · obtain rfl : k = n := by omega
      obtain rfl : I = N := by omega
      have HF := Lib.hid (show pre = encs (seg.map clean) by rw [HP.out, List.take_of_length_le (by have := HG.out; omega)])
      clear hI
      go_wp2_with fail
      go_ret
      exact ⟨_, rfl, by rw [← HF.out]; exact HO.out, KB.out⟩
end Go.Proofs.YtcnembabenlheaaDoor
