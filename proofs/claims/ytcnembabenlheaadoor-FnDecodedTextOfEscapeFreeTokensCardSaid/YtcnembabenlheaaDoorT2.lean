/-
  tryToDecodeEscapeSequences on a text without a backslash.
-/
import Derived.Test.YtcnembabenlheaaDoorT1
namespace Go.Proofs.YtcnembabenlheaaDoor
open Go.ChangeShapes Go.WideShapes Go.ChangeAt Go.RowKit
open Go.Lib (decodeN decode_at decodeGo)
set_option linter.unusedVariables false
/-- the units of a text from place i on: CR LF and CR are LF -/
def pu (s : ByteArray) : Nat → Nat → List Int
  | 0, _ => []
  | f + 1, i => if i < s.size then (if byt s i = 13 then 10 :: pu s f (if i + 1 < s.size ∧ byt s (i + 1) = 10 then i + 2 else i + 1) else u16 (decodeGo (s.extract i s.size)).1 ++ pu s f (i + (decodeGo (s.extract i s.size)).2)) else []
theorem pu_end (s : ByteArray) (f i : Nat) (h : s.size ≤ i) : pu s f i = [] := by
  cases f with
  | zero => rfl
  | succ f => unfold pu; rw [if_neg (by omega)]
theorem decN_low (n b0 b1 b2 b3 : Nat) (h : b0 < 128) : decodeN n b0 b1 b2 b3 = (b0, 1) := by unfold decodeN; rw [if_pos h]
theorem decN_big (n b0 b1 b2 b3 : Nat) (h : 128 ≤ b0) : 128 ≤ (decodeN n b0 b1 b2 b3).1 ∧ (decodeN n b0 b1 b2 b3).1 ≤ 1114111 := by
  unfold decodeN
  rw [if_neg (by omega)]
  repeat' split
  all_goals (simp; try omega)
theorem dec_low (s : ByteArray) (i : Nat) (h : i < s.size) (hb : byt s i < 128) : decodeGo (s.extract i s.size) = (byt s i, 1) := by
  rw [dec_at s i h, decN_low _ _ _ _ _ hb]
theorem dec_big (s : ByteArray) (i : Nat) (h : i < s.size) (hb : 128 ≤ byt s i) : 128 ≤ (decodeGo (s.extract i s.size)).1 ∧ (decodeGo (s.extract i s.size)).1 ≤ 1114111 := by
  rw [dec_at s i h]; exact decN_big _ _ _ _ _ hb
theorem dec_max (s : ByteArray) (i : Nat) (h : i < s.size) : (decodeGo (s.extract i s.size)).1 ≤ 1114111 := by
  by_cases hb : byt s i < 128
  · rw [dec_low s i h hb]; simp; omega
  · exact (dec_big s i h (by omega)).2
/-- the rune at i is c, a byte under 128, just where the byte is -/
theorem dec_is (s : ByteArray) (i c : Nat) (h : i < s.size) (hc : c < 128) : (decodeGo (s.extract i s.size)).1 = c ↔ byt s i = c := by
  by_cases hb : byt s i < 128
  · rw [dec_low s i h hb]
  · have := dec_big s i h (by omega)
    constructor
    · intro h; omega
    · intro h; omega
theorem u16_len (s : ByteArray) (i : Nat) (h : i < s.size) : (u16 (decodeGo (s.extract i s.size)).1).length ≤ (decodeGo (s.extract i s.size)).2 := by
  have h1 := dec_wid s i h
  unfold u16
  split
  · simp; omega
  · rename_i hh
    rw [dec_at s i h] at *
    unfold decodeN at *
    revert hh
    repeat' split
    all_goals (simp; try omega)
theorem cell_two (w : World) (v0 v1 : Value) (t : TypeId) : ∀ j u, [v0, v1][j]? = some u → (w.alloc (.cells #[v0, v1] t)).cell? ((⟨w.heap.size, 0, none⟩ : Addr).add j) = some u := by
  intro j u h
  have hj : j = 0 ∨ j = 1 := by have := (List.getElem?_eq_some_iff.1 h).1; simp at this; omega
  have hb := heap_alloc_new w (.cells #[v0, v1] t)
  rw [Addr.add_lit]
  rcases hj with rfl | rfl
  · have hv : v0 = u := by simpa using h
    subst hv
    simp only [World.cell?, Nat.zero_add]
    rw [hb]; rfl
  · have hv : v1 = u := by simpa using h
    subst hv
    simp only [World.cell?, Nat.zero_add]
    rw [hb]; rfl
theorem own_app2 {w : World} {B : Nat} {v : Value} {xs : List Int} {b c : Int} (h : w.ownsRow B 30 1 v (xs.length + 2) (cellsU xs ++ [.int .u16 b, .int .u16 c])) : OwnU w B v (xs ++ [b, c]) := by
  unfold OwnU
  have e1 : (xs ++ [b, c]).length = xs.length + 2 := by simp
  have e2 : cellsU (xs ++ [b, c]) = cellsU xs ++ [.int .u16 b, .int .u16 c] := by simp [cellsU]
  rw [e1, e2]; exact h
theorem us_intro {Rel : Prop} {F : (Nat → Value) → Act} {a : Act} (hr : Rel) (h : a = F (fun k => a.tmps.getD k undef)) : ∃ us, Rel ∧ a = F us := ⟨_, hr, h⟩
/-- the units pre have come, the place is i -/
def RelP (w : World) (s : ByteArray) (sl : Value) (i : Nat) (w' : World) : Prop := ∃ (pre : List Int) (f : Nat), i ≤ s.size ∧ OwnU w' w.heap.size sl pre ∧ Below w.heap.size w w' ∧ pre ++ pu s f i = pu s s.size 0 ∧ s.size ≤ i + f ∧ pre.length ≤ i
set_option maxRecDepth 1000000 in
/-- the frame in a round -/
def fr32 (p : Value) (st : Int) (s : ByteArray) (re : Bool) (sl : Value) (i : Nat) (us : Nat → Value) : Act := ⟨#[p, .int .i64 st, .string s, .bool re, us 4, us 5, us 6, us 7, us 8, us 9, us 10, sl, .int .i64 (i : Nat), us 13, us 14, us 15, us 16, us 17, us 18, us 19, us 20, us 21, us 22, us 23, us 24, us 25, us 26, us 27, us 28, us 29, us 30, us 31, us 32, us 33, us 34, us 35, us 36, us 37, us 38, us 39, us 40, us 41, us 42, us 43, us 44, us 45, us 46, us 47, us 48, us 49, us 50, us 51, us 52, us 53, us 54, us 55, us 56, us 57, us 58, us 59, us 60, us 61, us 62, us 63, us 64, us 65, us 66, us 67, us 68, us 69, us 70, us 71, us 72, us 73, us 74, us 75, us 76, us 77, us 78, us 79, us 80, us 81, us 82, us 83, us 84, us 85, us 86, us 87, us 88, us 89, us 90, us 91, us 92, us 93, us 94, us 95, us 96, us 97, us 98, us 99, us 100, us 101, us 102, us 103, us 104, us 105, us 106, us 107, us 108, us 109, us 110, us 111, us 112, us 113, us 114, us 115, us 116, us 117, us 118, us 119, us 120, us 121, us 122, us 123, us 124, us 125, us 126, us 127, us 128, us 129, us 130, us 131, us 132, us 133, us 134, us 135, us 136, us 137, us 138, us 139, us 140, us 141, us 142, us 143, us 144, us 145, us 146, us 147, us 148, us 149, us 150, us 151, us 152, us 153, us 154, us 155, us 156, us 157, us 158, us 159, us 160, us 161, us 162, us 163, us 164, us 165, us 166, us 167, us 168, us 169, us 170, us 171, us 172, us 173, us 174, us 175, us 176, us 177, us 178, us 179, us 180, us 181, us 182, us 183, us 184, us 185, us 186, us 187, us 188, us 189, us 190, us 191, us 192, us 193, us 194, us 195, us 196, us 197, us 198, us 199, us 200, us 201, us 202, us 203, us 204, us 205, us 206, us 207, us 208, us 209, us 210, us 211, us 212, us 213, us 214, us 215, us 216, us 217, us 218, us 219, us 220, us 221, us 222, us 223, us 224, us 225, us 226, us 227, us 228, us 229, us 230, us 231, us 232, us 233, us 234, us 235, us 236, us 237, us 238, us 239, us 240, us 241, us 242, us 243, us 244, us 245, us 246, us 247, us 248, us 249, us 250, us 251, us 252, us 253, us 254, us 255, us 256, us 257, us 258, us 259, us 260, us 261, us 262, us 263, us 264, us 265, us 266, us 267, us 268, us 269, us 270, us 271, us 272, us 273, us 274, us 275, us 276, us 277, us 278, us 279, us 280, us 281, us 282, us 283, us 284, us 285, us 286, us 287, us 288, us 289, us 290, us 291, us 292, us 293, us 294, us 295, us 296, us 297, us 298, us 299, us 300, us 301, us 302, us 303, us 304, us 305, us 306, us 307, us 308, us 309, us 310, us 311, us 312, us 313, us 314, us 315, us 316, us 317, us 318, us 319, us 320, us 321, us 322, us 323, us 324, us 325, us 326, us 327, us 328, us 329, us 330, us 331, us 332, us 333, us 334, us 335, us 336, us 337, us 338, us 339, us 340, us 341, us 342, us 343, us 344, us 345, us 346, us 347, us 348, us 349, us 350, us 351, us 352, us 353, us 354, us 355, us 356, us 357, us 358, us 359, us 360, us 361, us 362, us 363, us 364, us 365, us 366, us 367, us 368, us 369, us 370, us 371, us 372, us 373, us 374, us 375, us 376, us 377, us 378, us 379, us 380, us 381, us 382, us 383, us 384, us 385, us 386, us 387, us 388, us 389, us 390, us 391, us 392, us 393, us 394, us 395, us 396, us 397, us 398, us 399, us 400, us 401, us 402, us 403, us 404, us 405, us 406, us 407, us 408, us 409, us 410, us 411, us 412, us 413, us 414, us 415, us 416, us 417, us 418, us 419, us 420, us 421, us 422, us 423, us 424, us 425, us 426, us 427, us 428, us 429, us 430, us 431, us 432, us 433, us 434, us 435, us 436, us 437, us 438, us 439, us 440, us 441, us 442, us 443, us 444, us 445, us 446, us 447, us 448, us 449, us 450, us 451, us 452, us 453, us 454, us 455, us 456, us 457, us 458, us 459, us 460, us 461, us 462, us 463, us 464, us 465, us 466, us 467, us 468, us 469, us 470, us 471, us 472, us 473, us 474, us 475, us 476, us 477, us 478, us 479, us 480, us 481, us 482, us 483, us 484, us 485, us 486, us 487, us 488, us 489, us 490, us 491, us 492, us 493, us 494, us 495, us 496, us 497, us 498, us 499, us 500, us 501, us 502, us 503, us 504, us 505, us 506, us 507, us 508, us 509, us 510, us 511, us 512, us 513, us 514, us 515, us 516, us 517, us 518, us 519, us 520, us 521, us 522, us 523, us 524, us 525, us 526, us 527, us 528, us 529, us 530, us 531, us 532, us 533, us 534, us 535, us 536, us 537, us 538, us 539, us 540, us 541, us 542, us 543, us 544, us 545, us 546, us 547, us 548, us 549, us 550, us 551, us 552, us 553, us 554, us 555, us 556, us 557, us 558, us 559, us 560, us 561, us 562, us 563, us 564, us 565, us 566], []⟩
/-- what holds at the head of a round -/
def WI32 (p : Value) (st : Int) (s : ByteArray) (re : Bool) (w : World) (a : Act) (w' : World) : Prop := ∃ (sl : Value) (i : Nat), ∃ us : Nat → Value, RelP w s sl i w' ∧ a = fr32 p st s re sl i us
theorem WI32.intro {p : Value} {st : Int} {s : ByteArray} {re : Bool} {w : World} {a : Act} {w' : World} (sl : Value) (i : Nat) (hr : RelP w s sl i w') (h : a = fr32 p st s re sl i (fun k => a.tmps.getD k undef)) : WI32 p st s re w a w' := ⟨sl, i, _, hr, h⟩
def mu32 (s : ByteArray) (a : Act) (w' : World) : Nat := s.size - (intOf (a.tmps.getD 12 undef)).toNat
set_option maxRecDepth 1000000 in
set_option maxHeartbeats 8000000 in
theorem pl32 (p : Value) (st : Int) (s : ByteArray) (re : Bool) (w : World) (hT : Lib.Utf8Tabs 0 1 w) (hs : s.size ≤ 1048576) (hno : ∀ i, i < s.size → byt s i ≠ 92) :
    Calls Tryd.prog 32 #[p, .int .i64 st, .string s, .bool re] w fun e w' => (∃ v, e = .returned (.tuple #[v, .bool true, .int .i64 0]) ∧ OwnU w' w.heap.size v (pu s s.size 0)) ∧ Below w.heap.size w w' := by
  obtain ⟨i0, hin, hz0, hz1, hz2⟩ := info_parts infoU
  have HT := Lib.hid hT; have HNO := Lib.hid hno
  clear hT hno
  go_enter Tryd.func32, Tryd.ntmps32
  go_wp2_with fail
  refine wp_loop (WI32 p st s re w) (mu32 s) ?start ?round
  case start =>
    refine WI32.intro (.slice (some ⟨w.heap.size, 0, none⟩) 0 0) 0 ⟨[], s.size, by omega, ?_, (Below.refl _ _).alloc (Nat.le_refl _) _, by simp, by omega, by simp⟩ (by kernel_rfl)
    exact ⟨by simp [cellsU], Or.inr ⟨w.heap.size, 0, #[], rfl, Nat.le_refl _, heap_alloc_new _ _, by simp, by unfold maxLen; omega, by simp, by simp [cellsU]⟩⟩
  case round =>
    rintro a wr ⟨sl, i, us, hrel, rfl⟩
    obtain ⟨pre, f, hi, hO, hB, hU, hF, hpl⟩ := hrel
    have HO := Lib.hid hO; have KB := Lib.hid hB; have HU := Lib.hid hU; have HF := Lib.hid hF; have HTr := Lib.hid (tabs_below HT.out hB)
    clear hO hB hU hF
    unfold fr32
    by_cases hlt : i < s.size
    · obtain ⟨Y, hY⟩ : ∃ Y, s.extract i s.size = Y := ⟨_, rfl⟩
      obtain ⟨C, hC⟩ : ∃ C, (decodeGo Y).1 = C := ⟨_, rfl⟩
      obtain ⟨K, hK⟩ : ∃ K, (decodeGo Y).2 = K := ⟨_, rfl⟩
      have hwid := dec_wid s i hlt
      rw [hY, hK] at hwid
      obtain ⟨I, hI⟩ : ∃ I, i + K = I := ⟨_, rfl⟩
      have hI' : (i : Int) + (K : Int) = (I : Int) := by omega
      have hIs : I ≤ s.size := by omega
      have hiI : i < I := by omega
      have h13 := dec_is s i 13 hlt (by omega)
      have h92 := dec_is s i 92 hlt (by omega)
      rw [hY, hC] at h13 h92
      have hne92 : C ≠ 92 := fun h => HNO.out i hlt (h92.1 h)
      have hmax := dec_max s i hlt
      rw [hY, hC] at hmax
      have hulen := u16_len s i hlt
      rw [hY, hC, hK] at hulen
      obtain ⟨f', rfl⟩ : ∃ f', f = f' + 1 := ⟨f - 1, by have := HF.out; omega⟩
      have HP := Lib.hid (show pu s (f' + 1) i = if byt s i = 13 then 10 :: pu s f' (if i + 1 < s.size ∧ byt s (i + 1) = 10 then i + 2 else i + 1) else u16 C ++ pu s f' I by
        rw [pu, if_pos hlt, hY, hC, hK, hI])
      have HY := Lib.hid hY; have HC := Lib.hid hC; have HK := Lib.hid hK
      clear hY hC hK h92
      obtain ⟨R, hR⟩ : ∃ R : Int, (C : Int) = R := ⟨_, rfl⟩
      have q92 : (R == 92) = false := by rw [beq_eq_false_iff_ne]; omega
      by_cases hc13 : C = 13
      · have q13 : (R == 13) = true := by rw [beq_iff_eq]; omega
        have hK1 : K = 1 := by
          have h := dec_low s i hlt (by have := h13.1 hc13; omega)
          rw [HY.out] at h
          rw [← HK.out, h]
        subst hK1
        have hI2 : (i : Int) + 1 = (I : Int) := by omega
        clear hI'
        have hb13 : byt s i = 13 := h13.1 hc13
        have HP3 := Lib.hid (show pre ++ [10] ++ pu s f' (if i + 1 < s.size ∧ byt s (i + 1) = 10 then i + 2 else i + 1) = pu s s.size 0 by
          rw [← HU.out, HP.out, if_pos hb13]; simp)
        have HR := Lib.hid hR
        clear hR hmax hc13 h13 hne92 hulen HP HU hb13
        by_cases hn1 : I < s.size
        · have HBy := Lib.hid (byt_at s I hn1)
          by_cases hn2 : (s[I]'hn1).toNat = 10
          · have e10 : (((s[I]'hn1).toNat : Int) == 10) = true := by rw [beq_iff_eq]; omega
            have HP2 := Lib.hid (show pre ++ [10] ++ pu s f' (I + 1) = pu s s.size 0 by
              have h := HP3.out; rw [if_pos ⟨by omega, by rw [hI, ← HBy.out]; exact hn2⟩] at h; rw [show I + 1 = i + 2 by omega]; exact h)
            obtain ⟨J, hJ⟩ : ∃ J, I + 1 = J := ⟨_, rfl⟩
            have hJ' : (I : Int) + 1 = (J : Int) := by omega
            have hJs : J ≤ s.size := by omega
            rw [hJ] at HP2
            clear hn2 HP3
            go_wp2_with fail
            rw [HY.out]
            refine (dec37 Y wr HTr.out C 1 HC.out HK.out).mono ?_
            rintro e w1 ⟨rfl, be1⟩
            have KB1 := Lib.hid (KB.out.trans (be1.mono KB.out.size)); have HO1 := Lib.hid (HO.out.keep be1)
            clear be1
            rw [HR.out]
            dsimp only
            have HOA := Lib.hid (World.ownsRow.alloc HO1.out (.cells #[.int .u16 10] 30))
            go_wp2_with (at_builtin; refine wpList_append_own _ rfl _ _ 29 rfl w.heap.size 30 i0 (.int .u16 0) 1 2 Tryd.underlying29 hin hz0 hz1 hz2 rfl (by decide) sl pre.length (cellsU pre) rfl HOA.out ⟨w1.heap.size, 0, none⟩ 1 1 [.int .u16 10] rfl rfl (cell_one _ _ _) (by intro u hu; simp at hu; subst hu; rfl) (by unfold maxLen; omega) (by omega) (by have := KB1.out.size; simp; omega) ?_; intro v1 w2 hown1 hg1 hnil1; have OA1 := Lib.hid (own_app hown1); have KA1 := Lib.hid (KB1.out.trans ((below_alloc1 w1 w.heap.size KB1.out.size _).trans (below_grown hg1 w.heap.size (by have := KB1.out.size; simp; omega) HO1.out.lt))); clear hown1 hg1 hnil1)
            refine ⟨WI32.intro v1 J ⟨pre ++ [10], f', hJs, OA1.out, KA1.out, HP2.out, ?_, ?_⟩ (by kernel_rfl), ?_⟩
            · have := HF.out; omega
            · simp; omega
            · simp [mu32, intOf]; omega
          · have e10 : (((s[I]'hn1).toNat : Int) == 10) = false := by rw [beq_eq_false_iff_ne]; omega
            have HP2 := Lib.hid (show pre ++ [10] ++ pu s f' I = pu s s.size 0 by
              have h := HP3.out; rw [if_neg (fun hh => hn2 (by rw [HBy.out, ← hI]; exact hh.2))] at h; rw [show I = i + 1 by omega]; exact h)
            have hJs := hIs
            clear hn2 HP3
            go_wp2_with fail
            rw [HY.out]
            refine (dec37 Y wr HTr.out C 1 HC.out HK.out).mono ?_
            rintro e w1 ⟨rfl, be1⟩
            have KB1 := Lib.hid (KB.out.trans (be1.mono KB.out.size)); have HO1 := Lib.hid (HO.out.keep be1)
            clear be1
            rw [HR.out]
            dsimp only
            have HOA := Lib.hid (World.ownsRow.alloc HO1.out (.cells #[.int .u16 10] 30))
            go_wp2_with (at_builtin; refine wpList_append_own _ rfl _ _ 29 rfl w.heap.size 30 i0 (.int .u16 0) 1 2 Tryd.underlying29 hin hz0 hz1 hz2 rfl (by decide) sl pre.length (cellsU pre) rfl HOA.out ⟨w1.heap.size, 0, none⟩ 1 1 [.int .u16 10] rfl rfl (cell_one _ _ _) (by intro u hu; simp at hu; subst hu; rfl) (by unfold maxLen; omega) (by omega) (by have := KB1.out.size; simp; omega) ?_; intro v1 w2 hown1 hg1 hnil1; have OA1 := Lib.hid (own_app hown1); have KA1 := Lib.hid (KB1.out.trans ((below_alloc1 w1 w.heap.size KB1.out.size _).trans (below_grown hg1 w.heap.size (by have := KB1.out.size; simp; omega) HO1.out.lt))); clear hown1 hg1 hnil1)
            refine ⟨WI32.intro v1 I ⟨pre ++ [10], f', hJs, OA1.out, KA1.out, HP2.out, ?_, ?_⟩ (by kernel_rfl), ?_⟩
            · have := HF.out; omega
            · simp; omega
            · simp [mu32, intOf]; omega
        · have HP2 := Lib.hid (show pre ++ [10] ++ pu s f' I = pu s s.size 0 by
            have h := HP3.out; rw [if_neg (fun hh => by omega)] at h; rw [show I = i + 1 by omega]; exact h)
          have hJs := hIs
          clear HP3
          go_wp2_with fail
          rw [HY.out]
          refine (dec37 Y wr HTr.out C 1 HC.out HK.out).mono ?_
          rintro e w1 ⟨rfl, be1⟩
          have KB1 := Lib.hid (KB.out.trans (be1.mono KB.out.size)); have HO1 := Lib.hid (HO.out.keep be1)
          clear be1
          rw [HR.out]
          dsimp only
          have HOA := Lib.hid (World.ownsRow.alloc HO1.out (.cells #[.int .u16 10] 30))
          go_wp2_with (at_builtin; refine wpList_append_own _ rfl _ _ 29 rfl w.heap.size 30 i0 (.int .u16 0) 1 2 Tryd.underlying29 hin hz0 hz1 hz2 rfl (by decide) sl pre.length (cellsU pre) rfl HOA.out ⟨w1.heap.size, 0, none⟩ 1 1 [.int .u16 10] rfl rfl (cell_one _ _ _) (by intro u hu; simp at hu; subst hu; rfl) (by unfold maxLen; omega) (by omega) (by have := KB1.out.size; simp; omega) ?_; intro v1 w2 hown1 hg1 hnil1; have OA1 := Lib.hid (own_app hown1); have KA1 := Lib.hid (KB1.out.trans ((below_alloc1 w1 w.heap.size KB1.out.size _).trans (below_grown hg1 w.heap.size (by have := KB1.out.size; simp; omega) HO1.out.lt))); clear hown1 hg1 hnil1)
          refine ⟨WI32.intro v1 I ⟨pre ++ [10], f', hJs, OA1.out, KA1.out, HP2.out, ?_, ?_⟩ (by kernel_rfl), ?_⟩
          · have := HF.out; omega
          · simp; omega
          · simp [mu32, intOf]; omega
      · have q13 : (R == 13) = false := by rw [beq_eq_false_iff_ne]; omega
        have HP2 := Lib.hid (show pre ++ u16 C ++ pu s f' I = pu s s.size 0 by
          rw [← HU.out, HP.out, if_neg (fun h => hc13 (h13.2 h)), List.append_assoc])
        by_cases hbig : C < 65536
        · have HUC := Lib.hid (show u16 C = [R] by unfold u16; rw [if_pos hbig, hR])
          have t1 : decide (R ≤ 65535) = true := by simp; omega
          have hw : IntKind.u16.wrap R = R := by rw [IntKind.wrap_u16]; omega
          have HR := Lib.hid hR
          clear hR hbig hmax hc13 h13 hne92 hulen HP HU
          go_wp2_with fail
          rw [HY.out]
          refine (dec37 Y wr HTr.out C K HC.out HK.out).mono ?_
          rintro e w1 ⟨rfl, be1⟩
          have KB1 := Lib.hid (KB.out.trans (be1.mono KB.out.size)); have HO1 := Lib.hid (HO.out.keep be1)
          clear be1
          rw [HR.out]
          dsimp only
          have HOA := Lib.hid (World.ownsRow.alloc HO1.out (.cells #[.int .u16 R] 30))
          go_wp2_with (at_builtin; refine wpList_append_own _ rfl _ _ 29 rfl w.heap.size 30 i0 (.int .u16 0) 1 2 Tryd.underlying29 hin hz0 hz1 hz2 rfl (by decide) sl pre.length (cellsU pre) rfl HOA.out ⟨w1.heap.size, 0, none⟩ 1 1 [.int .u16 R] rfl rfl (cell_one _ _ _) (by intro u hu; simp at hu; subst hu; rfl) (by unfold maxLen; omega) (by omega) (by have := KB1.out.size; simp; omega) ?_; intro v1 w2 hown1 hg1 hnil1; have OA1 := Lib.hid (own_app hown1); have KA1 := Lib.hid (KB1.out.trans ((below_alloc1 w1 w.heap.size KB1.out.size _).trans (below_grown hg1 w.heap.size (by have := KB1.out.size; simp; omega) HO1.out.lt))); clear hown1 hg1 hnil1)
          refine ⟨WI32.intro v1 I ⟨pre ++ [R], f', hIs, OA1.out, KA1.out, ?_, ?_, ?_⟩ (by kernel_rfl), ?_⟩
          · have h := HP2.out; rw [HUC.out] at h; exact h
          · have := HF.out; omega
          · simp; omega
          · simp [mu32, intOf]; omega
        · obtain ⟨d, hd⟩ : ∃ d, C - 65536 = d := ⟨_, rfl⟩
          obtain ⟨m, hm⟩ : ∃ m, d % 1024 = m := ⟨_, rfl⟩
          obtain ⟨q, hq⟩ : ∃ q, d / 1024 = q := ⟨_, rfl⟩
          have hql : q < 1024 := by omega
          have hml : m < 1024 := by omega
          have hbm : bits .and .i32 (d : Int) 1023 = (m : Int) := by rw [show (1023 : Int) = ((1023 : Nat) : Int) from rfl, i32_mask d 10 1023 (by omega) rfl (by omega), ← hm]
          have hbq : bits .and .i32 (q : Int) 1023 = (q : Int) := by rw [show (1023 : Int) = ((1023 : Nat) : Int) from rfl, i32_mask q 10 1023 (by omega) rfl (by omega), Nat.mod_eq_of_lt hql]
          have HUC := Lib.hid (show u16 C = [(55296 : Int) + (q : Int), (56320 : Int) + (m : Int)] by
            unfold u16; rw [if_neg hbig, hd, hm, hq]; simp)
          have hlen2 : 2 ≤ K := by have h := hulen; rw [HUC.out] at h; simpa using h
          have t1 : decide (R ≤ 65535) = false := by simp; omega
          have r2 : IntKind.i32.wrap (R - 65536) = (d : Int) := by rw [IntKind.wrap_i32]; omega
          have d2 : (d : Int) ≤ 1048575 := by omega
          have q1 : (d : Int) / 1024 = (q : Int) := by omega
          have q2 : (q : Int) < 1024 := by omega
          have m2 : (m : Int) < 1024 := by omega
          have ww1 : IntKind.u16.wrap (55296 + (q : Int)) = 55296 + (q : Int) := by rw [IntKind.wrap_u16]; omega
          have ww2 : IntKind.u16.wrap (56320 + (m : Int)) = 56320 + (m : Int) := by rw [IntKind.wrap_u16]; omega
          have HR := Lib.hid hR
          clear hR hbig hmax hc13 h13 hne92 hulen HP HU hd hm hq hql hml
          go_wp2_with fail
          rw [HY.out]
          refine (dec37 Y wr HTr.out C K HC.out HK.out).mono ?_
          rintro e w1 ⟨rfl, be1⟩
          have KB1 := Lib.hid (KB.out.trans (be1.mono KB.out.size)); have HO1 := Lib.hid (HO.out.keep be1)
          clear be1
          rw [HR.out]
          dsimp only
          have HOA := Lib.hid (World.ownsRow.alloc HO1.out (.cells #[.int .u16 (55296 + (q : Int)), .int .u16 (56320 + (m : Int))] 30))
          go_wp2_with (at_builtin; refine wpList_append_own _ rfl _ _ 29 rfl w.heap.size 30 i0 (.int .u16 0) 1 2 Tryd.underlying29 hin hz0 hz1 hz2 rfl (by decide) sl pre.length (cellsU pre) rfl HOA.out ⟨w1.heap.size, 0, none⟩ 2 2 [.int .u16 (55296 + (q : Int)), .int .u16 (56320 + (m : Int))] rfl rfl (cell_two _ _ _ _) (by intro u hu; simp at hu; rcases hu with rfl | rfl <;> rfl) (by unfold maxLen; omega) (by omega) (by have := KB1.out.size; simp; omega) ?_; intro v1 w2 hown1 hg1 hnil1; have OA1 := Lib.hid (own_app2 hown1); have KA1 := Lib.hid (KB1.out.trans ((below_alloc1 w1 w.heap.size KB1.out.size _).trans (below_grown hg1 w.heap.size (by have := KB1.out.size; simp; omega) HO1.out.lt))); clear hown1 hg1 hnil1)
          refine ⟨WI32.intro v1 I ⟨pre ++ [(55296 : Int) + (q : Int), (56320 : Int) + (m : Int)], f', hIs, OA1.out, KA1.out, ?_, ?_, ?_⟩ (by kernel_rfl), ?_⟩
          · have h := HP2.out; rw [HUC.out] at h; exact h
          · have := HF.out; omega
          · simp; omega
          · simp [mu32, intOf]; omega
    · go_wp2_with fail
      go_ret3
      refine ⟨⟨sl, rfl, ?_⟩, KB.out⟩
      have h := HU.out
      rw [pu_end s f i (by omega), List.append_nil] at h
      rw [← h]; exact HO.out
end Go.Proofs.YtcnembabenlheaaDoor
