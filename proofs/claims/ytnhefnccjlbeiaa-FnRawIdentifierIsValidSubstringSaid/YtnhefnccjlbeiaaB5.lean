/-
  The walk of FnRawIdentifierIsValidSubstring.
-/
import Derived.Test.YtnhefnccjlbeiaaB4
import Derived.Laws.BitsAllLaws
namespace Go.Proofs.Ytnhefnccjlbeiaa
open Go.ChangeShapes Go.WideShapes Go.ChangeAt Go.RowKit
set_option linter.unusedVariables false
theorem flip_ne (a : Nat) (h : a ≤ 1048576) : (flip a == 0) = false := by
  have h1 : flip a = ((4294967295 ^^^ a : Nat) : Int) := by
    have hm : IntKind.u32.max = ((4294967295 : Nat) : Int) := by decide
    unfold flip
    rw [hm, u32_xor_nat _ _ (by omega) (by omega)]
  rw [h1]
  simp only [beq_eq_false_iff_ne, ne_eq]
  intro h0
  have h2 : 4294967295 ^^^ a = 0 := by omega
  have h3 : (4294967295 ^^^ a) ^^^ a = 4294967295 := by rw [Nat.xor_assoc, Nat.xor_self, Nat.xor_zero]
  rw [h2, Nat.zero_xor] at h3
  omega
theorem get_extract {s x : ByteArray} {a b k : Nat} (h : s.extract a b = x) (hk : k < x.size) (hs : a + k < s.size) : x[k]'hk = s[a + k]'hs := by
  subst h
  rw [ByteArray.getElem_extract]
set_option maxRecDepth 100000 in
theorem FnRawIdentifierIsValidSubstring_walk (a0 : ByteArray) (a1 : Int) (a2 : Int) (w0 : a0.size ≤ maxLen) (w1 : (Lit.int .i64 a1).wf = true) (w2 : (Lit.int .i64 a2).wf = true) (w : World) :
    Calls Try.prog 10 #[.string a0, .int .i64 a1, .int .i64 a2] w fun e w' => e = .returned (.bool true) ∧ Below w.heap.size w w' := by
  have hm := w0
  unfold maxLen at hm
  by_cases hs : a0.size ≤ 1048576
  · by_cases c1 : a1 < 0
    · go_enter Try.func10, Try.ntmps10
      go_wp2; go_ret; exact ⟨rfl, Below.refl _ _⟩
    by_cases c2 : a2 < a1
    · go_enter Try.func10, Try.ntmps10
      go_wp2; go_ret; exact ⟨rfl, Below.refl _ _⟩
    by_cases c4 : (a0.size : Int) < a2
    · go_enter Try.func10, Try.ntmps10
      go_wp2; go_ret; exact ⟨rfl, Below.refl _ _⟩
    obtain ⟨a, rfl⟩ := Int.eq_ofNat_of_zero_le (by omega : 0 ≤ a1)
    obtain ⟨b, rfl⟩ := Int.eq_ofNat_of_zero_le (by omega : 0 ≤ a2)
    have t0 : decide ((1048576 : Int) < a0.size) = false := by simp; omega
    go_enter Try.func10, Try.ntmps10
    go_wp2_with (first | (go_at_call 31; go_in))
    refine (newlex _ _ _ _).mono ?_
    rintro e w1' ⟨rfl, rfl⟩
    have hbel : Below w.heap.size w (w.alloc (.cells (lexCells a0 (a : Nat) (b : Nat)) 112)) := (Below.refl _ _).alloc (Nat.le_refl _) _
    have l1 := Lx.new w a0 (a : Nat) (b : Nat)
    have g1 : w.heap.size < (w.alloc (.cells (lexCells a0 (a : Nat) (b : Nat)) 112)).heap.size := by simp
    generalize w.alloc (.cells (lexCells a0 (a : Nat) (b : Nat)) 112) = W1 at *
    go_wp2_with fail
    refine (zident_any _ _ a0 a b l1 (by omega) (by omega) hs g1).mono ?_
    rintro e W2 ⟨rfl, hb3⟩
    replace hbel := hbel.trans (hb3.mono (by have := hbel.size; omega))
    clear hb3 l1 g1
    have hsz : (a0.extract a b).size = b - a := by simp; omega
    have i1 : ((((b - a : Nat)) : Int) != (b : Int) - a) = false := by simp; omega
    have HS := Lib.hid hsz
    generalize hx : a0.extract a b = x at *
    have HX := Lib.hid hx
    clear hx
    go_wp2_with fail
    clear hsz i1
    have hb4 : Below w.heap.size w (W2.alloc (.cells #[.string x, .int .u32 (flip a)] 59)) := hbel.alloc hbel.size _
    have q0 : ∀ n, ((W2.alloc (.cells #[.string x, .int .u32 (flip a)] 59)).drewN n).cell? ⟨W2.heap.size, 0, none⟩ = some (.string x) := fun n => cell_alloc_last W2 _ 59 0
    have q1 : ∀ n, ((W2.alloc (.cells #[.string x, .int .u32 (flip a)] 59)).drewN n).cell? ⟨W2.heap.size, 1, none⟩ = some (.int .u32 (flip a)) := fun n => cell_alloc_last W2 _ 59 1
    have g1 : W2.heap.size < (W2.alloc (.cells #[.string x, .int .u32 (flip a)] 59)).heap.size := by simp
    generalize W2.alloc (.cells #[.string x, .int .u32 (flip a)] 59) = W3 at *
    clear hbel
    have hxs : x.size ≤ 1048576 := by rw [HS.out]; omega
    have hxa : a + x.size ≤ a0.size := by rw [HS.out]; omega
    go_loopw [8] (fun i wr => ∃ k : Nat, k ≤ x.size ∧ i = .int .i64 k ∧ ∃ n, wr = W3.drewN n) (fun i _ => x.size - (intOf i).toNat)
    case atStart => exact ⟨0, by omega, rfl, 0, rfl⟩
    case round =>
      obtain ⟨k, hk, rfl, n, rfl⟩ := hrel
      by_cases hlt : k < x.size
      · have hq : (((x[k]'hlt).toNat : Int) != ((a0[a + k]'(by omega)).toNat : Int)) = false := by
          have : x[k]'hlt = a0[a + k]'(by omega) := get_extract HX.out hlt (by omega)
          rw [this]; simp
        have i1 : (k : Int) < x.size := by omega
        have i3 : (a : Int) + k < a0.size := by omega
        have i4 : 0 ≤ (a : Int) + k := by omega
        have i5 : ((a : Int) + k).toNat = a + k := by omega
        have i6 : IntKind.i64.wrap ((a : Int) + k) = (a : Int) + k := IntWalk.i64_in _ (by omega)
        go_wp2
        go_quiet (fail)
        go_wp2
        go_roundw
        case rel => exact ⟨k + 1, by omega, by go_num, _, rfl⟩
        case measure => simp [intOf]; omega
      · go_wp2_with fail
        refine (newlex _ _ _ _).mono ?_
        rintro e w1' ⟨rfl, rfl⟩
        have hb5 : Below w.heap.size w ((W3.drewN n).alloc (.cells (lexCells a0 (a : Nat) (a0.size : Nat)) 112)) := (below_drewN hb4 n).alloc (by have := hb4.size; simpa [World.drewN] using this) _
        have l1 := Lx.new (W3.drewN n) a0 (a : Nat) (a0.size : Nat)
        have q0' : ((W3.drewN n).alloc (.cells (lexCells a0 (a : Nat) (a0.size : Nat)) 112)).cell? ⟨W2.heap.size, 1, none⟩ = some (.int .u32 (flip a)) := by
          rw [((Below.refl _ (W3.drewN n)).alloc (Nat.le_refl _) _).cell (by simpa [World.drewN] using g1)]; exact q1 n
        have g2 : W2.heap.size < ((W3.drewN n).alloc (.cells (lexCells a0 (a : Nat) (a0.size : Nat)) 112)).heap.size := by simp [World.drewN]; omega
        have g3 : (W3.drewN n).heap.size < ((W3.drewN n).alloc (.cells (lexCells a0 (a : Nat) (a0.size : Nat)) 112)).heap.size := by simp
        generalize (W3.drewN n).alloc (.cells (lexCells a0 (a : Nat) (a0.size : Nat)) 112) = W4 at *
        go_wp2_with fail
        refine (zident_any _ _ a0 a a0.size l1 (by omega) (by omega) hs g3).mono ?_
        rintro e W5 ⟨rfl, hb3⟩
        have q2 : W5.cell? ⟨W2.heap.size, 1, none⟩ = some (.int .u32 (flip a)) := by rw [hb3.cell g2]; exact q0'
        replace g2 := Nat.lt_of_lt_of_le g2 hb3.size
        replace hb5 := hb5.trans (hb3.mono (by have := hb5.size; omega))
        clear hb3 l1 g1 q0' q0 q1 g3 hb4
        have hfl := flip_ne a (by omega)
        generalize flip a = fa at *
        go_wp2_with fail
        go_ret
        exact ⟨rfl, (hb5.alloc hb5.size _)⟩
  · go_enter Try.func10, Try.ntmps10
    go_wp2; go_ret; exact ⟨rfl, Below.refl _ _⟩
