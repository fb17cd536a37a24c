/-
  tryToDecodeEscapeSequences on plain ASCII bytes and four-digit u escapes.
-/
import Derived.Test.YtcnembabenlheaaDoorT4
import Derived.Deep.DeepCutAuto
namespace Go.Proofs.YtcnembabenlheaaDoor
open Go.ChangeShapes Go.WideShapes Go.ChangeAt Go.RowKit
open Go.Lib (decodeN decode_at decodeGo)
set_option linter.unusedVariables false
/-- the value of a hexadecimal digit -/
def hx (c : Nat) : Nat := if c < 58 then c - 48 else if c < 97 then c - 55 else c - 87
def isHx (c : Nat) : Bool := (48 ≤ c && c ≤ 57) || (65 ≤ c && c ≤ 70) || (97 ≤ c && c ≤ 102)
theorem isHx_lt (D : Nat) (h : isHx D = true) : D < 103 := by
  simp only [isHx, Bool.or_eq_true, Bool.and_eq_true, decide_eq_true_eq] at h; omega
theorem hx_lt (D : Nat) (h : isHx D = true) : hx D < 16 := by
  simp only [isHx, Bool.or_eq_true, Bool.and_eq_true, decide_eq_true_eq] at h
  unfold hx; split
  · omega
  · split <;> omega
theorem hx_class (D : Nat) (h : isHx D = true) : (48 ≤ D ∧ D ≤ 57 ∧ (hx D : Int) = (D : Int) - 48) ∨ (97 ≤ D ∧ D ≤ 102 ∧ (hx D : Int) = (D : Int) - 87) ∨ (65 ≤ D ∧ D ≤ 70 ∧ (hx D : Int) = (D : Int) - 55) := by
  simp only [isHx, Bool.or_eq_true, Bool.and_eq_true, decide_eq_true_eq] at h
  unfold hx
  rcases h with (h | h) | h
  · left; rw [if_pos (by omega)]; omega
  · right; right; rw [if_neg (by omega), if_pos (by omega)]; omega
  · right; left; rw [if_neg (by omega), if_neg (by omega)]; omega
theorem ne_b (D : Nat) (k : Int) (h : (D : Int) ≠ k) : ((D : Int) == k) = false := by rw [beq_eq_false_iff_ne]; exact h
/-- the value of the first j digits from place i on -/
def vj (s : ByteArray) (i : Nat) : Nat → Nat
  | 0 => 0
  | j + 1 => vj s i j * 16 + hx (byt s (i + j))
theorem vj_lt (s : ByteArray) (i : Nat) (h : ∀ j, j < 4 → isHx (byt s (i + j)) = true) : vj s i 1 < 16 ∧ vj s i 2 < 256 ∧ vj s i 3 < 4096 ∧ vj s i 4 < 65536 := by
  have a0 := hx_lt _ (h 0 (by omega)); have a1 := hx_lt _ (h 1 (by omega)); have a2 := hx_lt _ (h 2 (by omega)); have a3 := hx_lt _ (h 3 (by omega))
  simp only [vj]; omega
/-- one step: from place i the units xs come, and the place is then j -/
def Ok1 (s : ByteArray) (i : Nat) (xs : List Int) (j : Nat) : Prop :=
  (i < s.size ∧ byt s i < 128 ∧ byt s i ≠ 92 ∧ byt s i ≠ 13 ∧ xs = [(byt s i : Int)] ∧ j = i + 1) ∨
  (i + 6 ≤ s.size ∧ byt s i = 92 ∧ byt s (i + 1) = 117 ∧ (∀ j, j < 4 → isHx (byt s (i + 2 + j)) = true) ∧ xs = [(vj s (i + 2) 4 : Int)] ∧ j = i + 6)
inductive Ch32 (s : ByteArray) : Nat → List Int → Prop
  | done : Ch32 s s.size []
  | step (i : Nat) (xs : List Int) (j : Nat) (rest : List Int) : Ok1 s i xs j → Ch32 s j rest → Ch32 s i (xs ++ rest)
theorem Ch32.le {s : ByteArray} {i : Nat} {us : List Int} (h : Ch32 s i us) : i ≤ s.size := by
  cases h with
  | done => exact Nat.le_refl _
  | step _ xs j rest h1 h2 => rcases h1 with ⟨h, _⟩ | ⟨h, _⟩ <;> omega
theorem Ch32.inv {s : ByteArray} {i : Nat} {us : List Int} (h : Ch32 s i us) : (i = s.size ∧ us = []) ∨ (i < s.size ∧ ∃ xs j rest, Ok1 s i xs j ∧ Ch32 s j rest ∧ us = xs ++ rest) := by
  cases h with
  | done => exact Or.inl ⟨rfl, rfl⟩
  | step _ xs j rest h1 h2 => exact Or.inr ⟨by rcases h1 with ⟨h, _⟩ | ⟨h, _⟩ <;> omega, xs, j, rest, h1, h2, rfl⟩
def RelC (w : World) (s : ByteArray) (us : List Int) (sl : Value) (i : Nat) (w' : World) : Prop := ∃ (pre rest : List Int), i ≤ s.size ∧ OwnU w' w.heap.size sl pre ∧ Below w.heap.size w w' ∧ pre.length ≤ i ∧ Ch32 s i rest ∧ pre ++ rest = us
def WC32 (p : Value) (st : Int) (s : ByteArray) (re : Bool) (w : World) (xs : List Int) (a : Act) (w' : World) : Prop := ∃ (sl : Value) (i : Nat), ∃ us : Nat → Value, RelC w s xs sl i w' ∧ a = fr32 p st s re sl i us
theorem WC32.intro {p : Value} {st : Int} {s : ByteArray} {re : Bool} {w : World} {xs : List Int} {a : Act} {w' : World} (sl : Value) (i : Nat) (hr : RelC w s xs sl i w') (h : a = fr32 p st s re sl i (fun k => a.tmps.getD k undef)) : WC32 p st s re w xs a w' := ⟨sl, i, _, hr, h⟩
set_option maxRecDepth 1000000 in
/-- the frame in a round of the four digits -/
def fr32j (p : Value) (st : Int) (s : ByteArray) (re : Bool) (sl : Value) (pos : Nat) (V : Int) (D j : Nat) (us : Nat → Value) : Act := ⟨#[p, .int .i64 st, .string s, .bool re, us 4, us 5, us 6, us 7, us 8, us 9, us 10, sl, .int .i64 (pos : Nat), us 13, us 14, us 15, us 16, us 17, us 18, us 19, us 20, us 21, us 22, us 23, us 24, us 25, us 26, us 27, us 28, .int .i32 V, .int .i32 (D : Nat), .int .i64 1, us 32, us 33, us 34, .int .i64 (j : Nat), us 36, us 37, us 38, us 39, us 40, us 41, us 42, us 43, us 44, us 45, us 46, us 47, us 48, us 49, us 50, us 51, us 52, us 53, us 54, us 55, us 56, us 57, us 58, us 59, us 60, us 61, us 62, us 63, us 64, us 65, us 66, us 67, us 68, us 69, us 70, us 71, us 72, us 73, us 74, us 75, us 76, us 77, us 78, us 79, us 80, us 81, us 82, us 83, us 84, us 85, us 86, us 87, us 88, us 89, us 90, us 91, us 92, us 93, us 94, us 95, us 96, us 97, us 98, us 99, us 100, us 101, us 102, us 103, us 104, us 105, us 106, us 107, us 108, us 109, us 110, us 111, us 112, us 113, us 114, us 115, us 116, us 117, us 118, us 119, us 120, us 121, us 122, us 123, us 124, us 125, us 126, us 127, us 128, us 129, us 130, us 131, us 132, us 133, us 134, us 135, us 136, us 137, us 138, us 139, us 140, us 141, us 142, us 143, us 144, us 145, us 146, us 147, us 148, us 149, us 150, us 151, us 152, us 153, us 154, us 155, us 156, us 157, us 158, us 159, us 160, us 161, us 162, us 163, us 164, us 165, us 166, us 167, us 168, us 169, us 170, us 171, us 172, us 173, us 174, us 175, us 176, us 177, us 178, us 179, us 180, us 181, us 182, us 183, us 184, us 185, us 186, us 187, us 188, us 189, us 190, us 191, us 192, us 193, us 194, us 195, us 196, us 197, us 198, us 199, us 200, us 201, us 202, us 203, us 204, us 205, us 206, us 207, us 208, us 209, us 210, us 211, us 212, us 213, us 214, us 215, us 216, us 217, us 218, us 219, us 220, us 221, us 222, us 223, us 224, us 225, us 226, us 227, us 228, us 229, us 230, us 231, us 232, us 233, us 234, us 235, us 236, us 237, us 238, us 239, us 240, us 241, us 242, us 243, us 244, us 245, us 246, us 247, us 248, us 249, us 250, us 251, us 252, us 253, us 254, us 255, us 256, us 257, us 258, us 259, us 260, us 261, us 262, us 263, us 264, us 265, us 266, us 267, us 268, us 269, us 270, us 271, us 272, us 273, us 274, us 275, us 276, us 277, us 278, us 279, us 280, us 281, us 282, us 283, us 284, us 285, us 286, us 287, us 288, us 289, us 290, us 291, us 292, us 293, us 294, us 295, us 296, us 297, us 298, us 299, us 300, us 301, us 302, us 303, us 304, us 305, us 306, us 307, us 308, us 309, us 310, us 311, us 312, us 313, us 314, us 315, us 316, us 317, us 318, us 319, us 320, us 321, us 322, us 323, us 324, us 325, us 326, us 327, us 328, us 329, us 330, us 331, us 332, us 333, us 334, us 335, us 336, us 337, us 338, us 339, us 340, us 341, us 342, us 343, us 344, us 345, us 346, us 347, us 348, us 349, us 350, us 351, us 352, us 353, us 354, us 355, us 356, us 357, us 358, us 359, us 360, us 361, us 362, us 363, us 364, us 365, us 366, us 367, us 368, us 369, us 370, us 371, us 372, us 373, us 374, us 375, us 376, us 377, us 378, us 379, us 380, us 381, us 382, us 383, us 384, us 385, us 386, us 387, us 388, us 389, us 390, us 391, us 392, us 393, us 394, us 395, us 396, us 397, us 398, us 399, us 400, us 401, us 402, us 403, us 404, us 405, us 406, us 407, us 408, us 409, us 410, us 411, us 412, us 413, us 414, us 415, us 416, us 417, us 418, us 419, us 420, us 421, us 422, us 423, us 424, us 425, us 426, us 427, us 428, us 429, us 430, us 431, us 432, us 433, us 434, us 435, us 436, us 437, us 438, us 439, us 440, us 441, us 442, us 443, us 444, us 445, us 446, us 447, us 448, us 449, us 450, us 451, us 452, us 453, us 454, us 455, us 456, us 457, us 458, us 459, us 460, us 461, us 462, us 463, us 464, us 465, us 466, us 467, us 468, us 469, us 470, us 471, us 472, us 473, us 474, us 475, us 476, us 477, us 478, us 479, us 480, us 481, us 482, us 483, us 484, us 485, us 486, us 487, us 488, us 489, us 490, us 491, us 492, us 493, us 494, us 495, us 496, us 497, us 498, us 499, us 500, us 501, us 502, us 503, us 504, us 505, us 506, us 507, us 508, us 509, us 510, us 511, us 512, us 513, us 514, us 515, us 516, us 517, us 518, us 519, us 520, us 521, us 522, us 523, us 524, us 525, us 526, us 527, us 528, us 529, us 530, us 531, us 532, us 533, us 534, us 535, us 536, us 537, us 538, us 539, us 540, us 541, us 542, us 543, us 544, us 545, us 546, us 547, us 548, us 549, us 550, us 551, us 552, us 553, us 554, us 555, us 556, us 557, us 558, us 559, us 560, us 561, us 562, us 563, us 564, us 565, us 566], []⟩
def RelJ (w : World) (s : ByteArray) (i : Nat) (sl : Value) (pre : List Int) (pos : Nat) (V : Int) (D j : Nat) (w' : World) : Prop := j ≤ 4 ∧ OwnU w' w.heap.size sl pre ∧ Below w.heap.size w w' ∧ pos = i + 3 + min j 3 ∧ V = vj s (i + 2) j ∧ (j < 4 → D = byt s (i + 2 + j))
def WJ32 (p : Value) (st : Int) (s : ByteArray) (re : Bool) (w : World) (i : Nat) (sl : Value) (pre : List Int) (a : Act) (w' : World) : Prop := ∃ (pos : Nat) (V : Int) (D j : Nat), ∃ us : Nat → Value, RelJ w s i sl pre pos V D j w' ∧ a = fr32j p st s re sl pos V D j us
theorem WJ32.intro {p : Value} {st : Int} {s : ByteArray} {re : Bool} {w : World} {i : Nat} {sl : Value} {pre : List Int} {a : Act} {w' : World} (pos : Nat) (V : Int) (D j : Nat) (hr : RelJ w s i sl pre pos V D j w') (h : a = fr32j p st s re sl pos V D j (fun k => a.tmps.getD k undef)) : WJ32 p st s re w i sl pre a w' := ⟨pos, V, D, j, _, hr, h⟩
theorem WJ32.intro4 {p : Value} {st : Int} {s : ByteArray} {re : Bool} {w : World} {i : Nat} {sl : Value} {pre : List Int} {a : Act} {w' : World} (pos : Nat) (V : Int) (hr : ∀ D, RelJ w s i sl pre pos V D 4 w') (h : a = fr32j p st s re sl pos V (intOf (a.tmps.getD 30 undef)).toNat 4 (fun k => a.tmps.getD k undef)) : WJ32 p st s re w i sl pre a w' := ⟨pos, V, _, 4, _, hr _, h⟩
def muJ (a : Act) (w' : World) : Nat := 4 - (intOf (a.tmps.getD 35 undef)).toNat
theorem or_hex (V n : Nat) (hV : V < 65536) (hn : n < 16) : bits .or .i32 ((V : Int) * 16) (n : Int) = ((V * 16 + n : Nat) : Int) := by
  have := i32_join V n 4 (by omega) (by omega) (by omega)
  simpa using this
set_option maxRecDepth 1000000 in
set_option maxHeartbeats 8000000 in
theorem ue32 (p : Value) (st : Int) (s : ByteArray) (re : Bool) (w : World) (hT : Lib.Utf8Tabs 0 1 w) (hs : s.size ≤ 1048576) (xs : List Int) (hch : Ch32 s 0 xs) :
    Calls Tryd.prog 32 #[p, .int .i64 st, .string s, .bool re] w fun e w' => (∃ v, e = .returned (.tuple #[v, .bool true, .int .i64 0]) ∧ OwnU w' w.heap.size v xs) ∧ Below w.heap.size w w' := by
  obtain ⟨i0, hin, hz0, hz1, hz2⟩ := info_parts infoU
  have HT := Lib.hid hT; have HCH := Lib.hid hch
  clear hT hch
  go_enter Tryd.func32, Tryd.ntmps32
  go_wp2_with fail
  refine wp_loop (WC32 p st s re w xs) (mu32 s) ?start ?round
  case start =>
    refine WC32.intro (.slice (some ⟨w.heap.size, 0, none⟩) 0 0) 0 ⟨[], xs, by omega, ?_, (Below.refl _ _).alloc (Nat.le_refl _) _, by simp, HCH.out, rfl⟩ (by kernel_rfl)
    exact ⟨by simp [cellsU], Or.inr ⟨w.heap.size, 0, #[], rfl, Nat.le_refl _, heap_alloc_new _ _, by simp, by unfold maxLen; omega, by simp, by simp [cellsU]⟩⟩
  case round =>
    rintro a wr ⟨sl, i, us, hrel, rfl⟩
    obtain ⟨pre, rest, hi, hO, hB, hpl, hC, hU⟩ := hrel
    have HO := Lib.hid hO; have KB := Lib.hid hB; have HTr := Lib.hid (tabs_below HT.out hB)
    clear hO hB
    unfold fr32
    rcases hC.inv with ⟨rfl, rfl⟩ | ⟨hlt, xs1, nx, rest', hok, hC', rfl⟩
    · have HE := Lib.hid (show pre = xs by simpa using hU)
      clear hU hC
      go_wp2_with fail
      go_ret3
      refine ⟨⟨sl, rfl, ?_⟩, KB.out⟩
      rw [← HE.out]; exact HO.out
    have HU := Lib.hid hU; have HC' := Lib.hid hC'
    clear hU hC hC'
    rcases hok with ⟨_, p1, p2, p3, rfl, rfl⟩ | ⟨p0, p1, p2, p3, rfl, rfl⟩
    · have hdd := dec_b s i _ hlt rfl p1
      obtain ⟨C, hC⟩ : ∃ C, byt s i = C := ⟨_, rfl⟩
      rw [hC] at hdd p1 p2 p3
      obtain ⟨Y, hY⟩ : ∃ Y, s.extract i s.size = Y := ⟨_, rfl⟩
      rw [hY] at hdd
      have HDD := Lib.hid hdd; have HY := Lib.hid hY; have HC := Lib.hid hC
      obtain ⟨I, hI⟩ : ∃ I, i + 1 = I := ⟨_, rfl⟩
      have hI' : (i : Int) + 1 = (I : Int) := by omega
      obtain ⟨R, hR⟩ : ∃ R : Int, (C : Int) = R := ⟨_, rfl⟩
      have q92 : (R == 92) = false := by rw [beq_eq_false_iff_ne]; omega
      have q13 : (R == 13) = false := by rw [beq_eq_false_iff_ne]; omega
      have t1 : decide (R ≤ 65535) = true := by simp; omega
      have hw : IntKind.u16.wrap R = R := by rw [IntKind.wrap_u16]; omega
      have HR := Lib.hid hR
      clear hdd hY hC hR p1 p2 p3
      go_wp2_with fail
      rw [HY.out]
      refine (dec37 Y wr HTr.out C 1 HDD.out.1 HDD.out.2).mono ?_
      rintro e w1 ⟨rfl, be1⟩
      have KB1 := Lib.hid (KB.out.trans (be1.mono KB.out.size)); have HO1 := Lib.hid (HO.out.keep be1)
      clear be1
      rw [HR.out]
      dsimp only
      have HOA := Lib.hid (World.ownsRow.alloc HO1.out (.cells #[.int .u16 R] 30))
      go_wp2_with (at_builtin; refine wpList_append_own _ rfl _ _ 29 rfl w.heap.size 30 i0 (.int .u16 0) 1 2 Tryd.underlying29 hin hz0 hz1 hz2 rfl (by decide) sl pre.length (cellsU pre) rfl HOA.out ⟨w1.heap.size, 0, none⟩ 1 1 [.int .u16 R] rfl rfl (cell_one _ _ _) (by intro u hu; simp at hu; subst hu; rfl) (by unfold maxLen; omega) (by omega) (by have := KB1.out.size; simp; omega) ?_; intro v1 w2 hown1 hg1 hnil1; have OA1 := Lib.hid (own_app hown1); have KA1 := Lib.hid (KB1.out.trans ((below_alloc1 w1 w.heap.size KB1.out.size _).trans (below_grown hg1 w.heap.size (by have := KB1.out.size; simp; omega) HO1.out.lt))); clear hown1 hg1 hnil1)
      refine ⟨WC32.intro v1 I ⟨pre ++ [R], rest', by omega, OA1.out, KA1.out, by simp; omega, by rw [← hI]; exact HC'.out, by rw [← HU.out, HC.out, HR.out]; simp⟩ (by kernel_rfl), ?_⟩
      simp [mu32, intOf]; omega
    · obtain ⟨v1, v2, v3, v4⟩ := vj_lt s (i + 2) p3
      have hn2 := isHx_lt _ (p3 0 (by omega))
      have hh2 := p3 0 (by omega)
      have HD0 := Lib.hid (dec_b s i 92 (by omega) p1 (by omega)); have HD1 := Lib.hid (dec_b s (i + 1) 117 (by omega) p2 (by omega)); have HD2 := Lib.hid (dec_b s (i + 2) _ (by omega) rfl (by have := isHx_lt _ (p3 0 (by omega)); simp at this; omega))
      have HP3 := Lib.hid p3; have HV4 := Lib.hid v4; have HV3 := Lib.hid (And.intro v1 (And.intro v2 v3))
      obtain ⟨D0, hD0⟩ : ∃ D0, byt s (i + 2) = D0 := ⟨_, rfl⟩
      rw [Nat.add_zero, hD0] at hn2 hh2
      rw [hD0] at HD2
      have e123 : ((D0 : Int) == 123) = false := by rw [beq_eq_false_iff_ne]; omega
      have HDq := Lib.hid hD0
      obtain ⟨Y, hY⟩ : ∃ Y, s.extract i s.size = Y := ⟨_, rfl⟩
      obtain ⟨I, hI⟩ : ∃ I, i + 1 = I := ⟨_, rfl⟩
      have hI' : (i : Int) + 1 = (I : Int) := by omega
      rw [hY] at HD0
      rw [hI] at HD1
      have hIs : I < s.size := by omega
      have HY := Lib.hid hY
      clear hY p1 p2 p3 v1 v2 v3 v4 hD0 hn2 hh2
      go_wp2_with fail
      rw [HY.out]
      refine (dec37 Y wr HTr.out 92 1 HD0.out.1 HD0.out.2).mono ?_
      rintro e w1 ⟨rfl, be1⟩
      have KB1 := Lib.hid (KB.out.trans (be1.mono KB.out.size)); have HT1 := Lib.hid (tabs_below HTr.out be1); have HO1 := Lib.hid (HO.out.keep be1)
      clear be1
      dsimp only
      go_wp2_with fail
      refine (dec37 _ _ HT1.out 117 1 HD1.out.1 HD1.out.2).mono ?_
      rintro e wd1 ⟨rfl, bd1⟩
      have KBd1 := Lib.hid (KB1.out.trans (bd1.mono KB1.out.size)); have HTd1 := Lib.hid (tabs_below HT1.out bd1); have HOd1 := Lib.hid (HO1.out.keep bd1)
      clear bd1 KB1 HO1
      obtain ⟨J1, hJ1⟩ : ∃ J, I + 1 = J := ⟨_, rfl⟩
      have hJ1' : (I : Int) + 1 = (J1 : Int) := by omega
      rw [show i + 2 = J1 by omega] at HD2
      have hJ1s : J1 < s.size := by omega
      dsimp only
      go_wp2_with fail
      refine (dec37 _ _ HTd1.out D0 1 HD2.out.1 HD2.out.2).mono ?_
      rintro e wd2 ⟨rfl, bd2⟩
      have KBd2 := Lib.hid (KBd1.out.trans (bd2.mono KBd1.out.size)); have HOd2 := Lib.hid (HOd1.out.keep bd2)
      clear bd2 KBd1 HOd1
      obtain ⟨J2, hJ2⟩ : ∃ J, J1 + 1 = J := ⟨_, rfl⟩
      have hJ2' : (J1 : Int) + 1 = (J2 : Int) := by omega
      dsimp only
      go_wp2_with fail
      refine wp_loop (WJ32 p st s re w i sl pre) muJ ?startj ?roundj
      case startj =>
        exact WJ32.intro J2 0 D0 0 ⟨by omega, HOd2.out, KBd2.out, by omega, rfl, fun _ => HDq.out.symm⟩ (by kernel_rfl)
      case roundj =>
        rintro a wq ⟨pos, V, D, j, us2, hrelj, rfl⟩
        obtain ⟨hj4, hOq, hBq, hpos, hV, hD⟩ := hrelj
        have HPQ := Lib.hid hpos
        have HOq := Lib.hid hOq; have KBq := Lib.hid hBq; have HTq := Lib.hid (tabs_below HT.out hBq)
        clear hOq hBq e123 KBd2 HOd2
        unfold fr32j
        by_cases hj : j < 4
        · have hDD := hD hj
          have hDx : isHx D = true := by rw [hDD]; exact HP3.out j hj
          have hxl := hx_lt D hDx
          have hcs := hx_class D hDx
          have hVle : vj s (i + 2) j ≤ 4095 := by
            obtain ⟨v1, v2, v3⟩ := HV3.out
            rcases (show j = 0 ∨ j = 1 ∨ j = 2 ∨ j = 3 by omega) with rfl | rfl | rfl | rfl
            · simp [vj]
            · omega
            · omega
            · omega
          obtain ⟨V', hV'⟩ : ∃ V' : Int, ((vj s (i + 2) (j + 1) : Nat) : Int) = V' := ⟨_, rfl⟩
          have o : bits .or .i32 (V * 16) (hx D : Int) = V' := by
            rw [hV, or_hex _ _ (by omega) hxl, ← hV', hDD]; rfl
          have hVa : 0 ≤ V := by omega
          have hVb : V ≤ 4095 := by omega
          obtain ⟨JJ, hJJ⟩ : ∃ JJ, j + 1 = JJ := ⟨_, rfl⟩
          have hJJ' : (j : Int) + 1 = (JJ : Int) := by omega
          have HV' := Lib.hid hV'
          clear hD hDD hDx hxl hVle hV hV'
          have hps4 : pos ≤ s.size := by omega
          clear hpos
          rcases hcs with hcs | hcs | hcs
          · obtain ⟨c1, c2, hX⟩ := hcs
            rw [hX] at o
            have o2 : bits .or .i32 (V * 16) ((D : Int) - 48) = V' := by first | exact o | (rw [← o]; congr 1; omega)
            have HO2 := Lib.hid o2; have HC := Lib.hid (And.intro c1 c2)
            clear o o2 hX c1 c2
            go_upto_if 452 with fail
            go_cut [452] (fun v wx => v = .bool true ∧ wx = wq)
            case first =>
              rcases (show D = 48 ∨ D = 49 ∨ D = 50 ∨ D = 51 ∨ D = 52 ∨ D = 53 ∨ D = 54 ∨ D = 55 ∨ D = 56 ∨ D = 57 by have := HC.out; omega) with rfl | rfl | rfl | rfl | rfl | rfl | rfl | rfl | rfl | rfl
              all_goals
                go_wp2_with fail
                go_meet
                exact ⟨rfl, rfl⟩
            case rest =>
              obtain ⟨rfl, rfl⟩ := hcut
              have o := HO2.out
              have c1 := HC.out.1
              have c2 := HC.out.2
              by_cases hj3 : j < 3
              · obtain ⟨D', hD'⟩ : ∃ D', byt s (i + 2 + (j + 1)) = D' := ⟨_, rfl⟩
                have hps : pos < s.size := by have := HPQ.out; omega
                have hD'x := isHx_lt _ (HP3.out (j + 1) (by omega))
                have HDn := Lib.hid (dec_b s pos D' hps (by rw [← hD']; congr 1; have := HPQ.out; omega) (by omega))
                have HD'q := Lib.hid hD'
                obtain ⟨POS, hPOS⟩ : ∃ POS, pos + 1 = POS := ⟨_, rfl⟩
                have hPOS' : (pos : Int) + 1 = (POS : Int) := by omega
                clear hD' hD'x
                go_wp2_with fail
                refine (dec37 _ _ HTq.out D' 1 HDn.out.1 HDn.out.2).mono ?_
                rintro e wd3 ⟨rfl, bd3⟩
                have KBd3 := Lib.hid (KBq.out.trans (bd3.mono KBq.out.size)); have HOd3 := Lib.hid (HOq.out.keep bd3)
                clear bd3
                dsimp only
                go_wp2_with fail
                refine ⟨WJ32.intro POS V' D' JJ ⟨by omega, HOd3.out, KBd3.out, by have := HPQ.out; omega, by rw [← hJJ]; exact HV'.out.symm, fun _ => by rw [← hJJ]; exact HD'q.out.symm⟩ (by kernel_rfl), ?_⟩
                simp [muJ, intOf]; omega
              · obtain rfl : j = 3 := by omega
                obtain rfl : JJ = 4 := by omega
                clear hJJ hJJ'
                go_wp2_with fail
                refine ⟨WJ32.intro4 pos V' (fun D => ⟨by omega, HOq.out, KBq.out, by have := HPQ.out; omega, HV'.out.symm, fun h => by omega⟩) (by kernel_rfl), ?_⟩
                simp [muJ, intOf]
          · obtain ⟨c1, c2, hX⟩ := hcs
            rw [hX] at o
            have o2 : bits .or .i32 (V * 16) ((D : Int) + 10 - 97) = V' := by first | exact o | (rw [← o]; congr 1; omega)
            have HO2 := Lib.hid o2; have HC := Lib.hid (And.intro c1 c2)
            have n48 := ne_b D 48 (by omega)
            have n49 := ne_b D 49 (by omega)
            have n50 := ne_b D 50 (by omega)
            have n51 := ne_b D 51 (by omega)
            have n52 := ne_b D 52 (by omega)
            have n53 := ne_b D 53 (by omega)
            have n54 := ne_b D 54 (by omega)
            have n55 := ne_b D 55 (by omega)
            have n56 := ne_b D 56 (by omega)
            have n57 := ne_b D 57 (by omega)
            clear o o2 hX c1 c2
            go_upto_if 468 with fail
            go_cut [468] (fun v wx => v = .bool true ∧ wx = wq)
            case first =>
              rcases (show D = 97 ∨ D = 98 ∨ D = 99 ∨ D = 100 ∨ D = 101 ∨ D = 102 by have := HC.out; omega) with rfl | rfl | rfl | rfl | rfl | rfl
              all_goals
                go_wp2_with fail
                go_meet
                exact ⟨rfl, rfl⟩
            case rest =>
              obtain ⟨rfl, rfl⟩ := hcut
              have o := HO2.out
              have c1 := HC.out.1
              have c2 := HC.out.2
              by_cases hj3 : j < 3
              · obtain ⟨D', hD'⟩ : ∃ D', byt s (i + 2 + (j + 1)) = D' := ⟨_, rfl⟩
                have hps : pos < s.size := by have := HPQ.out; omega
                have hD'x := isHx_lt _ (HP3.out (j + 1) (by omega))
                have HDn := Lib.hid (dec_b s pos D' hps (by rw [← hD']; congr 1; have := HPQ.out; omega) (by omega))
                have HD'q := Lib.hid hD'
                obtain ⟨POS, hPOS⟩ : ∃ POS, pos + 1 = POS := ⟨_, rfl⟩
                have hPOS' : (pos : Int) + 1 = (POS : Int) := by omega
                clear hD' hD'x
                go_wp2_with fail
                refine (dec37 _ _ HTq.out D' 1 HDn.out.1 HDn.out.2).mono ?_
                rintro e wd3 ⟨rfl, bd3⟩
                have KBd3 := Lib.hid (KBq.out.trans (bd3.mono KBq.out.size)); have HOd3 := Lib.hid (HOq.out.keep bd3)
                clear bd3
                dsimp only
                go_wp2_with fail
                refine ⟨WJ32.intro POS V' D' JJ ⟨by omega, HOd3.out, KBd3.out, by have := HPQ.out; omega, by rw [← hJJ]; exact HV'.out.symm, fun _ => by rw [← hJJ]; exact HD'q.out.symm⟩ (by kernel_rfl), ?_⟩
                simp [muJ, intOf]; omega
              · obtain rfl : j = 3 := by omega
                obtain rfl : JJ = 4 := by omega
                clear hJJ hJJ'
                go_wp2_with fail
                refine ⟨WJ32.intro4 pos V' (fun D => ⟨by omega, HOq.out, KBq.out, by have := HPQ.out; omega, HV'.out.symm, fun h => by omega⟩) (by kernel_rfl), ?_⟩
                simp [muJ, intOf]
          · obtain ⟨c1, c2, hX⟩ := hcs
            rw [hX] at o
            have o2 : bits .or .i32 (V * 16) ((D : Int) + 10 - 65) = V' := by first | exact o | (rw [← o]; congr 1; omega)
            have HO2 := Lib.hid o2; have HC := Lib.hid (And.intro c1 c2)
            have n48 := ne_b D 48 (by omega)
            have n49 := ne_b D 49 (by omega)
            have n50 := ne_b D 50 (by omega)
            have n51 := ne_b D 51 (by omega)
            have n52 := ne_b D 52 (by omega)
            have n53 := ne_b D 53 (by omega)
            have n54 := ne_b D 54 (by omega)
            have n55 := ne_b D 55 (by omega)
            have n56 := ne_b D 56 (by omega)
            have n57 := ne_b D 57 (by omega)
            have n97 := ne_b D 97 (by omega)
            have n98 := ne_b D 98 (by omega)
            have n99 := ne_b D 99 (by omega)
            have n100 := ne_b D 100 (by omega)
            have n101 := ne_b D 101 (by omega)
            have n102 := ne_b D 102 (by omega)
            clear o o2 hX c1 c2
            go_upto_if 481 with fail
            go_cut [481] (fun v wx => v = .bool true ∧ wx = wq)
            case first =>
              rcases (show D = 65 ∨ D = 66 ∨ D = 67 ∨ D = 68 ∨ D = 69 ∨ D = 70 by have := HC.out; omega) with rfl | rfl | rfl | rfl | rfl | rfl
              all_goals
                go_wp2_with fail
                go_meet
                exact ⟨rfl, rfl⟩
            case rest =>
              obtain ⟨rfl, rfl⟩ := hcut
              have o := HO2.out
              have c1 := HC.out.1
              have c2 := HC.out.2
              by_cases hj3 : j < 3
              · obtain ⟨D', hD'⟩ : ∃ D', byt s (i + 2 + (j + 1)) = D' := ⟨_, rfl⟩
                have hps : pos < s.size := by have := HPQ.out; omega
                have hD'x := isHx_lt _ (HP3.out (j + 1) (by omega))
                have HDn := Lib.hid (dec_b s pos D' hps (by rw [← hD']; congr 1; have := HPQ.out; omega) (by omega))
                have HD'q := Lib.hid hD'
                obtain ⟨POS, hPOS⟩ : ∃ POS, pos + 1 = POS := ⟨_, rfl⟩
                have hPOS' : (pos : Int) + 1 = (POS : Int) := by omega
                clear hD' hD'x
                go_wp2_with fail
                refine (dec37 _ _ HTq.out D' 1 HDn.out.1 HDn.out.2).mono ?_
                rintro e wd3 ⟨rfl, bd3⟩
                have KBd3 := Lib.hid (KBq.out.trans (bd3.mono KBq.out.size)); have HOd3 := Lib.hid (HOq.out.keep bd3)
                clear bd3
                dsimp only
                go_wp2_with fail
                refine ⟨WJ32.intro POS V' D' JJ ⟨by omega, HOd3.out, KBd3.out, by have := HPQ.out; omega, by rw [← hJJ]; exact HV'.out.symm, fun _ => by rw [← hJJ]; exact HD'q.out.symm⟩ (by kernel_rfl), ?_⟩
                simp [muJ, intOf]; omega
              · obtain rfl : j = 3 := by omega
                obtain rfl : JJ = 4 := by omega
                clear hJJ hJJ'
                go_wp2_with fail
                refine ⟨WJ32.intro4 pos V' (fun D => ⟨by omega, HOq.out, KBq.out, by have := HPQ.out; omega, HV'.out.symm, fun h => by omega⟩) (by kernel_rfl), ?_⟩
                simp [muJ, intOf]
        · obtain rfl : j = 4 := by omega
          have hVb : V < 65536 := by have := HV4.out; omega
          have hVa : 0 ≤ V := by omega
          have HP6 := Lib.hid (show pos = i + 6 by omega)
          have hps4 : pos ≤ s.size := by omega
          have hi6 : pre.length + 1 ≤ pos := by omega
          have t1 : decide (V ≤ 65535) = true := by simp; omega
          have hw : IntKind.u16.wrap V = V := by rw [IntKind.wrap_u16]; omega
          have HVq := Lib.hid hV
          have HOA := Lib.hid (World.ownsRow.alloc HOq.out (.cells #[.int .u16 V] 30))
          clear hVb hVa hV hD hpos
          go_wp2_with (at_builtin; refine wpList_append_own _ rfl _ _ 29 rfl w.heap.size 30 i0 (.int .u16 0) 1 2 Tryd.underlying29 hin hz0 hz1 hz2 rfl (by decide) sl pre.length (cellsU pre) rfl HOA.out ⟨wq.heap.size, 0, none⟩ 1 1 [.int .u16 V] rfl rfl (cell_one _ _ _) (by intro u hu; simp at hu; subst hu; rfl) (by unfold maxLen; omega) (by omega) (by have := KBq.out.size; simp; omega) ?_; intro v1 w2 hown1 hg1 hnil1; have OA1 := Lib.hid (own_app hown1); have KA1 := Lib.hid (KBq.out.trans ((below_alloc1 wq w.heap.size KBq.out.size _).trans (below_grown hg1 w.heap.size (by have := KBq.out.size; simp; omega) HOq.out.lt))); clear hown1 hg1 hnil1)
          refine ⟨WC32.intro v1 pos ⟨pre ++ [V], rest', by omega, OA1.out, KA1.out, by simp; omega, by rw [HP6.out]; exact HC'.out, by rw [← HU.out, HVq.out]; simp⟩ (by kernel_rfl), ?_⟩
          have := HP6.out
          simp [mu32, intOf]; omega
end Go.Proofs.YtcnembabenlheaaDoor
