/-
  The walk of FnCookedIsNilOnBadEscapeRawKept: the law itself.
-/
import Derived.Test.YtcnembabenlheaaDoorT9
namespace Go.Proofs.YtcnembabenlheaaDoor
open Go.ChangeShapes Go.WideShapes Go.ChangeAt Go.RowKit
set_option linter.unusedVariables false
theorem byt_l (a b : ByteArray) (i : Nat) (h : i < a.size) : byt (a ++ b) i = byt a i := by
  have h2 : i < (a ++ b).size := by rw [ByteArray.size_append]; omega
  rw [← byt_at a i h, ← byt_at (a ++ b) i h2, ByteArray.getElem_append_left h]
theorem byt_r (a b : ByteArray) (i : Nat) (h : i < b.size) : byt (a ++ b) (a.size + i) = byt b i := by
  have h2 : a.size + i < (a ++ b).size := by rw [ByteArray.size_append]; omega
  rw [← byt_at b i h, ← byt_at (a ++ b) (a.size + i) h2, ByteArray.getElem_append_right (by omega)]
  congr 2; omega
def Plain (s : ByteArray) : Prop := ∀ i, i < s.size → byt s i < 128 ∧ byt s i ≠ 92 ∧ byt s i ≠ 13
theorem badS_no13 (m : Nat) (hm : m < 4) (i : Nat) (h : i < (badS m).size) : byt (badS m) i ≠ 13 := by
  rcases (show m = 0 ∨ m = 1 ∨ m = 2 ∨ m = 3 by omega) with rfl | rfl | rfl | rfl
  · have h3 : i < 3 := h
    rcases (show i = 0 ∨ i = 1 ∨ i = 2 by omega) with rfl | rfl | rfl <;> decide
  · have h3 : i < 5 := h
    rcases (show i = 0 ∨ i = 1 ∨ i = 2 ∨ i = 3 ∨ i = 4 by omega) with rfl | rfl | rfl | rfl | rfl <;> decide
  · have h3 : i < 4 := h
    rcases (show i = 0 ∨ i = 1 ∨ i = 2 ∨ i = 3 by omega) with rfl | rfl | rfl | rfl <;> decide
  · have h3 : i < 6 := h
    rcases (show i = 0 ∨ i = 1 ∨ i = 2 ∨ i = 3 ∨ i = 4 ∨ i = 5 by omega) with rfl | rfl | rfl | rfl | rfl | rfl <;> decide
theorem body_no13 (p q : ByteArray) (m : Nat) (hm : m < 4) (hp : Plain p) (hq : Plain q) (i : Nat) (h : i < (p ++ badS m ++ q).size) : byt (p ++ badS m ++ q) i ≠ 13 := by
  rw [ByteArray.size_append, ByteArray.size_append] at h
  by_cases h1 : i < p.size
  · rw [byt_l _ _ _ (by rw [ByteArray.size_append]; omega), byt_l _ _ _ h1]; exact (hp i h1).2.2
  by_cases h2 : i < p.size + (badS m).size
  · obtain ⟨k, rfl⟩ : ∃ k, i = p.size + k := ⟨i - p.size, by omega⟩
    rw [byt_l _ _ _ (by rw [ByteArray.size_append]; omega), byt_r _ _ _ (by omega)]; exact badS_no13 m hm k (by omega)
  · obtain ⟨k, rfl⟩ : ∃ k, i = (p ++ badS m).size + k := ⟨i - (p ++ badS m).size, by rw [ByteArray.size_append]; omega⟩
    have hk : k < q.size := by rw [ByteArray.size_append] at h; omega
    rw [byt_r _ _ _ hk]; exact (hq k hk).2.2
theorem body_at (p q : ByteArray) (m k : Nat) (h : k < (badS m).size) : byt (p ++ badS m ++ q) (p.size + k) = byt (badS m) k := by
  rw [byt_l _ _ _ (by rw [ByteArray.size_append]; omega), byt_r _ _ _ h]
theorem body_plain (p q : ByteArray) (m : Nat) (hp : Plain p) (i : Nat) (h : i < p.size) : byt (p ++ badS m ++ q) i < 128 ∧ byt (p ++ badS m ++ q) i ≠ 92 ∧ byt (p ++ badS m ++ q) i ≠ 13 := by
  rw [byt_l _ _ _ (by rw [ByteArray.size_append]; omega), byt_l _ _ _ h]; exact hp i h
theorem badS_size (m : Nat) (hm : m < 4) : 3 ≤ (badS m).size ∧ (badS m).size ≤ 6 := by
  rcases (show m = 0 ∨ m = 1 ∨ m = 2 ∨ m = 3 by omega) with rfl | rfl | rfl | rfl <;> decide
theorem bad32 (g m : Nat) (hm : m < 4) (p q : ByteArray) (hp : Plain p) (hs : (p ++ badS m ++ q).size ≤ 1048576) (w : World) (hT : Lib.Utf8Tabs 0 1 w) (hj : w.cell? ⟨g, 68, none⟩ = some (.int .u8 2)) :
    Calls Tryd.prog 32 #[.pointer (some ⟨g, 0, none⟩), .int .i64 1, .string (p ++ badS m ++ q), .bool false] w fun e w' => (∃ X, e = .returned (.tuple #[.slice none 0 0, .bool false, .int .i64 X])) ∧ Below w.heap.size w w' := by
  have hsz : (p ++ badS m ++ q).size = p.size + (badS m).size + q.size := by rw [ByteArray.size_append, ByteArray.size_append]
  rcases (show m = 0 ∨ m = 1 ∨ m = 2 ∨ m = 3 by omega) with rfl | rfl | rfl | rfl
  · have hz : (badS 0).size = 3 := rfl
    exact bx32 g 1 (by omega) (by omega) _ p.size w hT hs (body_plain p q 0 hp) hj (by omega) (body_at p q 0 0 (by omega)) (body_at p q 0 1 (by omega)) (body_at p q 0 2 (by omega))
  · have hz : (badS 1).size = 5 := rfl
    exact bu32 g 1 (by omega) (by omega) _ p.size w hT hs (body_plain p q 1 hp) hj (by omega) (body_at p q 1 0 (by omega)) (body_at p q 1 1 (by omega)) (body_at p q 1 2 (by omega)) (body_at p q 1 3 (by omega)) (body_at p q 1 4 (by omega))
  · have hz : (badS 2).size = 4 := rfl
    exact be32 g 1 (by omega) (by omega) _ p.size w hT hs (body_plain p q 2 hp) hj (by omega) (body_at p q 2 0 (by omega)) (body_at p q 2 1 (by omega)) (body_at p q 2 2 (by omega)) (body_at p q 2 3 (by omega))
  · have hz : (badS 3).size = 6 := rfl
    exact bg32 g 1 (by omega) (by omega) _ p.size w hT hs (body_plain p q 3 hp) hj (by omega) (body_at p q 3 0 (by omega)) (body_at p q 3 1 (by omega)) (body_at p q 3 2 (by omega)) (body_at p q 3 3 (by omega)) (body_at p q 3 4 (by omega))
theorem cut_mid (o b c : ByteArray) (ho : o.size = 1) : (o ++ b ++ c).extract 1 ((o ++ b ++ c).size - c.size) = b := by
  apply ByteArray.ext_getElem
  · simp [ByteArray.size_extract, ByteArray.size_append]; omega
  · intro i hi hi'
    rw [ByteArray.getElem_extract]
    have h1 : 1 + i < (o ++ b).size := by rw [ByteArray.size_append]; omega
    rw [ByteArray.getElem_append_left h1, ByteArray.getElem_append_right (by omega)]
    congr 1; omega
def closeK : Nat → Nat
  | 2 => 2
  | 3 => 2
  | _ => 1
theorem parts (m : Nat) (hm : m < 4) : (openS m).size = 1 ∧ (closeS m).size = closeK m ∧ ((closeK m = 1 ∧ (tokS m = 3 ∨ tokS m = 9)) ∨ (closeK m = 2 ∧ (tokS m = 7 ∨ tokS m = 8))) := by
  rcases (show m = 0 ∨ m = 1 ∨ m = 2 ∨ m = 3 by omega) with rfl | rfl | rfl | rfl <;> decide
theorem cooked (g m k : Nat) (hm : m < 4) (hk : k < 4) (p q B C : ByteArray) (hB : p ++ badS m ++ q = B) (hC : openS k ++ B ++ closeS k = C) (hp : Plain p) (hq : Plain q) (h1 : p.size ≤ 65536) (h2 : q.size ≤ 65536) (e : Int) (he : e = C.size) (w : World) (hT : Lib.Utf8Tabs 0 1 w) (hL : TokLex w g C e (tokS k)) :
    Calls Tryd.prog 25 #[.pointer (some ⟨g, 0, none⟩)] w fun e w' => e = .returned (.tuple #[.slice none 0 0, .string B]) ∧ Below w.heap.size w w' := by
  obtain ⟨a1, a2, a3⟩ := parts k hk
  have hbs := badS_size m hm
  have hsB : B.size = p.size + (badS m).size + q.size := by rw [← hB, ByteArray.size_append, ByteArray.size_append]
  have hsC : C.size = 1 + B.size + closeK k := by rw [← hC, ByteArray.size_append, ByteArray.size_append, a1, a2]
  have hck : closeK k ≤ 2 := by rcases a3 with ⟨h, _⟩ | ⟨h, _⟩ <;> omega
  subst he
  have hT' := hT
  refine cook25 g C B (tokS k) C.size (closeK k) a3 w hL rfl (by omega) (by omega) ?_ ?_ ?_
  · have := cut_mid (openS k) B (closeS k) a1
    rw [hC, a2] at this; exact this
  · intro i hi; subst hB; exact body_no13 p q m hm hp hq i hi
  · intro W hbe
    subst hB
    exact bad32 g m hm p q hp (by omega) W (tabs_below hT hbe) ((hbe.cell (block_lt_of_cell hL.2.2.2.1)).trans hL.2.2.2.1)
set_option maxRecDepth 100000 in
set_option maxHeartbeats 4000000 in
theorem FnCookedIsNilOnBadEscapeRawKept_walk (p q : ByteArray) (a2 a3 : Int) (w0 : p.size ≤ maxLen) (w1 : q.size ≤ maxLen) (w2 : (Lit.int .u8 a2).wf = true) (w3 : (Lit.int .u8 a3).wf = true) (w : World) (hT : Lib.Utf8Tabs 0 1 w) :
    Calls Tryd.prog 6 #[.string p, .string q, .int .u8 a2, .int .u8 a3] w fun e w' => e = .returned (.bool true) ∧ Below w.heap.size w w' := by
  have HT := Lib.hid hT
  have hu : ∀ a : Int, (Lit.int .u8 a).wf = true → 0 ≤ a ∧ a ≤ 255 := by
    intro a h
    simp only [Lit.wf, Bool.and_eq_true, decide_eq_true_eq] at h
    have e1 : IntKind.u8.min = 0 := by decide
    have e2 : IntKind.u8.max = 255 := by decide
    omega
  have H2 := Lib.hid (hu a2 w2); have H3 := Lib.hid (hu a3 w3)
  clear hT w2 w3 hu w0 w1
  go_enter Tryd.func6, Tryd.ntmps6
  go_wp2_with fail
  refine (zb20 p q a2 a3 w).mono ?_
  rintro e w1 ⟨⟨b, rfl, hb⟩, rfl⟩
  cases b
  · dsimp only
    go_wp2_with fail
    go_ret
    exact ⟨rfl, Below.refl _ _⟩
  clear hb
  dsimp only
  by_cases h1 : p.size ≤ 65536
  case neg =>
    go_wp2_with fail
    go_ret
    exact ⟨rfl, Below.refl _ _⟩
  by_cases h2 : q.size ≤ 65536
  case neg =>
    go_wp2_with fail
    go_ret
    exact ⟨rfl, Below.refl _ _⟩
  go_wp2_with fail
  refine (pt21 p (by omega) w).mono ?_
  rintro e w1 ⟨⟨b, rfl, hb⟩, rfl⟩
  cases b
  · dsimp only
    go_wp2_with fail
    go_ret
    exact ⟨rfl, Below.refl _ _⟩
  have HP := Lib.hid (show Plain p from hb rfl)
  clear hb
  dsimp only
  go_wp2_with fail
  refine (pt21 q (by omega) w).mono ?_
  rintro e w1 ⟨⟨b, rfl, hb⟩, rfl⟩
  cases b
  · dsimp only
    go_wp2_with fail
    go_ret
    exact ⟨rfl, Below.refl _ _⟩
  have HQ := Lib.hid (show Plain q from hb rfl)
  clear hb
  dsimp only
  obtain ⟨m, hm⟩ : ∃ m : Nat, a2 % 4 = m := ⟨(a2 % 4).toNat, by omega⟩
  obtain ⟨k, hk⟩ : ∃ k : Nat, a3 % 4 = k := ⟨(a3 % 4).toNat, by omega⟩
  have HM := Lib.hid hm; have HK := Lib.hid hk
  have hm4 : m < 4 := by omega
  have hk4 : k < 4 := by omega
  clear hm hk
  have HSZ := Lib.hid (badS_size m hm4)
  go_wp2_with fail
  refine (be22 a2 m HM.out H2.out.1 H2.out.2 w).mono ?_
  rintro e w1 ⟨rfl, rfl⟩
  obtain ⟨B, hB⟩ : ∃ B, p ++ badS m ++ q = B := ⟨_, rfl⟩
  have hsB : B.size = p.size + (badS m).size + q.size := by rw [← hB, ByteArray.size_append, ByteArray.size_append]
  have HBq := Lib.hid hB
  have hb6 := HSZ.out.2
  have hBs : B.size ≤ 131078 := by omega
  have hBs2 : p.size + (badS m).size + q.size ≤ 131078 := by omega
  clear hB hsB
  dsimp only
  go_wp2_with fail
  rw [HBq.out]
  refine (tp23 a3 k HK.out H3.out.1 H3.out.2 w).mono ?_
  rintro e w1 ⟨rfl, rfl⟩
  obtain ⟨C, hC⟩ : ∃ C, openS k ++ B ++ closeS k = C := ⟨_, rfl⟩
  obtain ⟨p1, p2, p3⟩ := parts k hk4
  have hck : closeK k ≤ 2 := by rcases p3 with ⟨h, _⟩ | ⟨h, _⟩ <;> omega
  have hsC : C.size = 1 + B.size + closeK k := by rw [← hC, ByteArray.size_append, ByteArray.size_append, p1, p2]
  have hCs : C.size ≤ 131081 := by omega
  have hs1 : (openS k).size ≤ 1 := by omega
  have hs2 : (closeS k).size ≤ 2 := by omega
  have HCq := Lib.hid hC
  have HSum := Lib.hid (show ((openS k).size : Int) + (B.size : Int) + ((closeS k).size : Int) = (C.size : Int) by omega)
  clear hC hsC p1 p2 p3 hck
  dsimp only
  go_wp2_with fail
  rw [HCq.out]
  refine (ex24 C _ _ w).mono ?_
  rintro e w1 ⟨⟨g, rfl, hL⟩, be⟩
  have HL := Lib.hid hL; have KB := Lib.hid be
  clear hL be
  dsimp only
  go_wp2_with fail
  refine (cooked g m k hm4 hk4 p q B C HBq.out HCq.out HP.out HQ.out h1 h2 _ HSum.out w1 (tabs_below HT.out KB.out) HL.out).mono ?_
  rintro e w2 ⟨rfl, be⟩
  have KB2 := Lib.hid (KB.out.trans (be.mono KB.out.size))
  clear be
  dsimp only
  go_wp2_with fail
  go_ret
  exact ⟨rfl, KB2.out⟩
end Go.Proofs.YtcnembabenlheaaDoor
