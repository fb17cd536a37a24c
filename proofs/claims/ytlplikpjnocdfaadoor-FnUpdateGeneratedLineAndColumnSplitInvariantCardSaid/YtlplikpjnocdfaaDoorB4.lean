/-
  zzDecodeSeg, plainly and walked.
-/
import Derived.Test.YtlplikpjnocdfaaDoorB3
import Derived.Deep.CutBlock
namespace Go.Proofs.YtlplikpjnocdfaaDoor
open Go.ChangeShapes Go.WideShapes Go.ChangeAt Go.RowKit
set_option linter.unusedVariables false
theorem dgt_chr : ∀ d, d < 64 → dgt (chr d) = (d : Int) := by decide
theorem chr_byte : ∀ d, d < 64 → 0 ≤ chr d ∧ chr d < 256 := by decide
theorem encF_pos (f V : Nat) : 1 ≤ (encF (f + 1) V).length := by unfold encF; split <;> simp
/-- the numbers ds stand in xs from st to en, number j from P j on -/
structure Sg (xs ds : List Int) (st en : Nat) (P : Nat → Nat) : Prop where
  p0 : P 0 = st
  pn : P ds.length = en
  step : ∀ j, j < ds.length → P (j + 1) = P j + (enc (zig (ds.getD j 0))).length
  byt : ∀ j, j < ds.length → ∀ t, t < (enc (zig (ds.getD j 0))).length → xs.getD (P j + t) 0 = (enc (zig (ds.getD j 0))).getD t 0
  le : ∀ j, j ≤ ds.length → P j ≤ en
  fits : en ≤ xs.length
  inn : ∀ j, j < ds.length → In33 (ds.getD j 0)
  n6 : ds.length ≤ 6
theorem Sg.lt {xs ds : List Int} {st en : Nat} {P : Nat → Nat} (h : Sg xs ds st en P) {j : Nat} (hj : j < ds.length) : P j < en := by
  have h1 := h.step j hj
  have h2 := h.le (j + 1) (by omega)
  have h3 := encF_pos 6 (zig (ds.getD j 0))
  unfold enc at h1
  have h4 : 1 ≤ (encF 7 (zig (ds.getD j 0))).length := h3
  omega
def arr6 (A : List Int) : Value := .agg #[.int .i64 (A.getD 0 0), .int .i64 (A.getD 1 0), .int .i64 (A.getD 2 0), .int .i64 (A.getD 3 0), .int .i64 (A.getD 4 0), .int .i64 (A.getD 5 0)]
/-- the first j of the list, filled up with noughts to six -/
def fl6 (A : List Int) (j : Nat) : List Int := A.take j ++ List.replicate (6 - j) 0
theorem fl6_len (A : List Int) (j : Nat) (h : j ≤ A.length) (h6 : j ≤ 6) : (fl6 A j).length = 6 := by simp [fl6]; omega
theorem fl6_set (A : List Int) (j : Nat) (h6 : j < 6) (hj : j < A.length) : (fl6 A j).set j (A.getD j 0) = fl6 A (j + 1) := by
  unfold fl6
  have h1 : (A.take j).length = j := by simp; omega
  have h2 : 6 - j = (6 - (j + 1)) + 1 := by omega
  rw [List.set_append_right _ _ (by omega), h1, Nat.sub_self, h2, List.replicate_succ, List.set_cons_zero, List.take_succ_eq_append_getElem hj]
  have h3 : A.getD j 0 = A[j]'hj := by simp [hj]
  rw [h3, List.append_assoc]
  rfl
def sts (n : Nat) (P : Nat → Nat) : List Int := (List.range n).map fun j => (P j : Int)
theorem sts_len (n : Nat) (P : Nat → Nat) : (sts n P).length = n := by simp [sts]
theorem sts_get (n : Nat) (P : Nat → Nat) (j : Nat) (h : j < n) : (sts n P).getD j 0 = (P j : Int) := by simp [sts, List.getD, h]
abbrev R6 := RowG (Value.int .i64) 37
theorem results_ccss {fn : Func} {p q u v : Tmp} {ty ty' : TypeId} (h : fn.results = #[.cell p ty, .cell q ty', .tmp u, .tmp v]) (tmps : Array Value) (P : Program) (w : World) :
    (results fn tmps).run P w =
      ((asAddr (tmps.getD p undef)).run P w).andThen fun a w₁ => ((loadVar ty a).run P w₁).andThen fun x w₂ =>
        ((asAddr (tmps.getD q undef)).run P w₂).andThen fun b w₃ => ((loadVar ty' b).run P w₃).andThen fun y w₄ => .ok (.tuple #[x, y, tmps.getD u undef, tmps.getD v undef]) w₄ := by
  simp only [results, h]
  simp [Sem.run_bind, Result.andThen]
theorem R6.six {w : World} {b : Nat} {A : List Int} (h : R6 w b A) (hl : A.length = 6) :
    w.cell? ⟨b, 0, none⟩ = some (.int .i64 (A.getD 0 0)) ∧ w.cell? ⟨b, 1, none⟩ = some (.int .i64 (A.getD 1 0)) ∧ w.cell? ⟨b, 2, none⟩ = some (.int .i64 (A.getD 2 0)) ∧ w.cell? ⟨b, 3, none⟩ = some (.int .i64 (A.getD 3 0)) ∧ w.cell? ⟨b, 4, none⟩ = some (.int .i64 (A.getD 4 0)) ∧ w.cell? ⟨b, 5, none⟩ = some (.int .i64 (A.getD 5 0)) ∧ ∀ i, w.frozen? ⟨b, i, none⟩ = false :=
  ⟨RowG.cell (d := 0) h (by omega), RowG.cell (d := 0) h (by omega), RowG.cell (d := 0) h (by omega), RowG.cell (d := 0) h (by omega), RowG.cell (d := 0) h (by omega), RowG.cell (d := 0) h (by omega), fun i => RowG.frozen h i⟩
/-- the six cells of block b in the loop -/
structure Four (w wr : World) (B : Nat) (V S : List Int) : Prop where
  z0 : R6 wr B [0, 0, 0, 0, 0, 0]
  z1 : R6 wr (B + 1) [0, 0, 0, 0, 0, 0]
  v : R6 wr (B + 1 + 1) V
  s : R6 wr (B + 1 + 1 + 1) S
  be : Below B w wr
set_option maxRecDepth 100000 in
set_option maxHeartbeats 4000000 in
theorem ds14 (w : World) (v : Value) (xs ds : List Int) (st en : Nat) (P : Nat → Nat) (h : Bytes w v xs) (hl : xs.length ≤ 67108864) (hS : Sg xs ds st en P) :
    Calls Tryd.prog 14 #[v, .int .i64 st, .int .i64 en] w fun e w' => e = .returned (.tuple #[arr6 (fl6 ds ds.length), arr6 (fl6 (sts ds.length P) ds.length), .int .i64 ds.length, .bool true]) ∧ Below w.heap.size w w' := by
  obtain ⟨pp, c, rfl, hcap, hi⟩ := h
  obtain ⟨N, hN⟩ : ∃ N, xs.length = N := ⟨_, rfl⟩
  obtain ⟨n, hn⟩ : ∃ n, ds.length = n := ⟨_, rfl⟩
  have hn6 := hS.n6
  have hfit := hS.fits
  have HI := Lib.hid hi; have HN := Lib.hid hN; have HS := Lib.hid hS; have Hn := Lib.hid hn
  rw [hN] at hl hcap hfit ⊢
  rw [hn] at hn6 ⊢
  clear hi hN hn hS
  have hB1 : ∀ (o1 o2 o3 o4 : Obj), ((((w.alloc o1).alloc o2).alloc o3).alloc o4).heap[w.heap.size]? = some o1 ∧ ((((w.alloc o1).alloc o2).alloc o3).alloc o4).heap[w.heap.size + 1]? = some o2 ∧ ((((w.alloc o1).alloc o2).alloc o3).alloc o4).heap[w.heap.size + 1 + 1]? = some o3 ∧ ((((w.alloc o1).alloc o2).alloc o3).alloc o4).heap[w.heap.size + 1 + 1 + 1]? = some o4 ∧ Below w.heap.size w ((((w.alloc o1).alloc o2).alloc o3).alloc o4) := by
    intro o1 o2 o3 o4
    have s1 : (w.alloc o1).heap.size = w.heap.size + 1 := by simp
    have s2 : ((w.alloc o1).alloc o2).heap.size = w.heap.size + 1 + 1 := by simp
    have s3 : (((w.alloc o1).alloc o2).alloc o3).heap.size = w.heap.size + 1 + 1 + 1 := by simp
    refine ⟨?_, ?_, ?_, ?_, ((((Below.refl _ _).alloc (Nat.le_refl _) _).alloc (by omega) _).alloc (by omega) _).alloc (by omega) _⟩
    · rw [heap_alloc_old _ _ (by omega), heap_alloc_old _ _ (by omega), heap_alloc_old _ _ (by omega)]; exact heap_alloc_new w o1
    · rw [heap_alloc_old _ _ (by omega), heap_alloc_old _ _ (by omega), ← s1]; exact heap_alloc_new _ o2
    · rw [heap_alloc_old _ _ (by omega), ← s2]; exact heap_alloc_new _ o3
    · rw [← s3]; exact heap_alloc_new _ o4
  have HF0 := Lib.hid (show Four w ((((w.alloc (.cells #[.int .i64 0, .int .i64 0, .int .i64 0, .int .i64 0, .int .i64 0, .int .i64 0] 37)).alloc (.cells #[.int .i64 0, .int .i64 0, .int .i64 0, .int .i64 0, .int .i64 0, .int .i64 0] 37)).alloc (.cells #[.int .i64 0, .int .i64 0, .int .i64 0, .int .i64 0, .int .i64 0, .int .i64 0] 37)).alloc (.cells #[.int .i64 0, .int .i64 0, .int .i64 0, .int .i64 0, .int .i64 0, .int .i64 0] 37)) w.heap.size (fl6 ds 0) (fl6 (sts n P) 0) from by
    obtain ⟨b0, b1, b2, b3, b4⟩ := hB1 (.cells #[.int .i64 0, .int .i64 0, .int .i64 0, .int .i64 0, .int .i64 0, .int .i64 0] 37) (.cells #[.int .i64 0, .int .i64 0, .int .i64 0, .int .i64 0, .int .i64 0, .int .i64 0] 37) (.cells #[.int .i64 0, .int .i64 0, .int .i64 0, .int .i64 0, .int .i64 0, .int .i64 0] 37) (.cells #[.int .i64 0, .int .i64 0, .int .i64 0, .int .i64 0, .int .i64 0, .int .i64 0] 37)
    exact ⟨b0, b1, b2, b3, b4⟩)
  have HP0 := Lib.hid HS.out.p0
  clear hB1
  go_enter Tryd.func14, Tryd.ntmps14
  go_wp2_with fail
  go_loopw [12, 13] (fun v12 v13 wr => ∃ j p : Nat, v12 = .int .i64 j ∧ v13 = .int .i64 p ∧ j ≤ n ∧ Hid (P j = p) ∧ Hid (Four w wr w.heap.size (fl6 ds j) (fl6 (sts n P) j))) (fun v12 _ _ => n - (intOf v12).toNat)
  case atStart => exact ⟨0, st, rfl, rfl, Nat.zero_le _, HP0, HF0⟩
  case round =>
    obtain ⟨j, p, rfl, rfl, hjn, HPj, HF⟩ := hrel
    by_cases hj : j < n
    · have hjd : j < ds.length := by rw [Hn.out]; exact hj
      have hpe : p < en := by have := HS.out.lt hjd; rw [HPj.out] at this; exact this
      have hj6 : j < 6 := by omega
      have hj6b : ((j : Int) == 6) = false := by simp; omega
      obtain ⟨D, hD⟩ : ∃ D, ds.getD j 0 = D := ⟨_, rfl⟩
      obtain ⟨E, hE⟩ : ∃ E, P (j + 1) = E := ⟨_, rfl⟩
      obtain ⟨Z, hZ⟩ : ∃ Z, zig D = Z := ⟨_, rfl⟩
      have hin := HS.out.inn j hjd
      have hst := HS.out.step j hjd
      have hby := HS.out.byt j hjd
      have hEe := HS.out.le (j + 1) (by omega)
      rw [hD, hZ] at hst hby
      rw [hD] at hin
      rw [hE] at hst hEe
      rw [HPj.out] at hst hby
      have hZl : Z < 34359738368 := by rw [← hZ]; unfold zig In33 at *; split <;> omega
      have HDj := Lib.hid hD; have HEj := Lib.hid hE; have HZj := Lib.hid hZ; have HST := Lib.hid hst; have HBY := Lib.hid hby; have HIN := Lib.hid hin
      have hl6 : (fl6 ds j).length = 6 := fl6_len ds j (by omega) (by omega)
      have hl6s : (fl6 (sts n P) j).length = 6 := fl6_len _ j (by rw [sts_len]; omega) (by omega)
      have q1 := RowG.cell (d := 0) HF.out.s (j := j) (by omega)
      have q2 := RowG.frozen HF.out.s j
      obtain ⟨o1, ho1⟩ : ∃ o, (fl6 (sts n P) j).getD j 0 = o := ⟨_, rfl⟩
      rw [ho1] at q1
      obtain ⟨wr1, hw1⟩ : ∃ x, wr.setCell ⟨w.heap.size + 1 + 1 + 1, j, none⟩ (.int .i64 p) = x := ⟨_, rfl⟩
      have HW1 := Lib.hid hw1
      have hF1 : Four w wr1 w.heap.size (fl6 ds j) (fl6 (sts n P) (j + 1)) := by
        rw [← hw1]
        refine ⟨(heap_set_other j _ (by omega)).trans HF.out.z0, (heap_set_other j _ (by omega)).trans HF.out.z1, (heap_set_other j _ (by omega)).trans HF.out.v, ?_, HF.out.be.setCell (by simp; omega) _⟩
        have h1 := HF.out.s.set j (p : Int)
        have h2 := fl6_set (sts n P) j hj6 (by rw [sts_len]; exact hj)
        rw [sts_get n P j hj, HPj.out] at h2
        rw [h2] at h1
        exact h1
      have HF1 := Lib.hid hF1
      have HLV := Lib.hid hl6
      clear hD hE hZ hst hby hin hjd hl6 hl6s ho1 hw1 hF1
      go_upto_block 2 with fail
      rw [HW1.out]
      go_cut [13, 14] (fun v13 v14 wx => v13 = .int .i64 E ∧ v14 = .int .i64 Z ∧ wr1 = wx)
      case first =>
        go_wp2_with fail
        go_loopw [13, 14, 15] (fun v13 v14 v15 wx => ∃ i q Vi U : Nat, v13 = .int .i64 q ∧ v14 = .int .i64 Vi ∧ v15 = .int .i64 (5 * i : Nat) ∧ wr1 = wx ∧ i ≤ 6 ∧ Vi < 2 ^ (5 * i) ∧ Hid (Vi + U * 2 ^ (5 * i) = Z) ∧ Hid (U < 32 ^ (7 - i)) ∧ Hid (∀ t, t < (encF (7 - i) U).length → xs.getD (q + t) 0 = (encF (7 - i) U).getD t 0) ∧ Hid (q + (encF (7 - i) U).length = E) ∧ Hid (q = p + i)) (fun v13 _ _ _ => E - (intOf v13).toNat)
        case atStart => exact ⟨0, p, 0, Z, rfl, rfl, rfl, rfl, by omega, by simp, Lib.hid (by simp), Lib.hid (by simpa using hZl), HBY, Lib.hid HST.out.symm, Lib.hid rfl⟩
        case round =>
          obtain ⟨i, q, Vi, U, rfl, rfl, rfl, rfl, hi6, hVi, HZi, HUi, HBi, HEi, HQ⟩ := hrel
          have hpos := encF_pos (6 - i) U
          rw [show 6 - i + 1 = 7 - i by omega] at hpos
          have hqE : q < E := by have := HEi.out; omega
          have hqe : q < en := by omega
          have hqN : q < N := by omega
          obtain ⟨a, rfl, hc⟩ := HI.out q (by have := HN.out; omega)
          have hcw : wr1.cell? (a.add q) = some (.int .u8 (xs.getD q 0)) := by rw [HF1.out.be.cell (block_lt_of_cell hc)]; exact hc
          have hx0 : xs.getD q 0 = (encF (7 - i) U).getD 0 0 := by have := HBi.out 0 (by omega); simpa using this
          obtain ⟨x, hx⟩ : ∃ x, xs.getD q 0 = x := ⟨_, rfl⟩
          rw [hx] at hcw hx0
          obtain ⟨d, hd⟩ : ∃ d : Nat, (if U < 32 then U else U % 32 + 32) = d := ⟨_, rfl⟩
          have hd64 : d < 64 := by rw [← hd]; split <;> omega
          have hxd : x = chr d := by
            rw [hx0, show 7 - i = 6 - i + 1 by omega, ← hd]
            unfold encF
            split <;> rfl
          have hxb : 0 ≤ x ∧ x < 256 := by rw [hxd]; exact chr_byte d hd64
          have hdg : dgt x = (d : Int) := by rw [hxd]; exact dgt_chr d hd64
          have HDG := Lib.hid (fun W => dg29 x hxb.1 hxb.2 W)
          rw [hdg] at HDG
          have HC := Lib.hid (show (d < 32 ∧ U = d ∧ E = q + 1) ∨ ((32 ≤ d ∧ 32 ≤ U) ∧ d % 32 = U % 32 ∧ U / 32 < 32 ^ (7 - (i + 1)) ∧ (∀ t, t < (encF (7 - (i + 1)) (U / 32)).length → xs.getD (q + 1 + t) 0 = (encF (7 - (i + 1)) (U / 32)).getD t 0) ∧ q + 1 + (encF (7 - (i + 1)) (U / 32)).length = E) by
            have hE := HEi.out
            have hU := HUi.out
            have hB := HBi.out
            rw [show 7 - i = 6 - i + 1 by omega] at hE hU hB
            by_cases h32 : U < 32
            · rw [if_pos h32] at hd
              left
              refine ⟨by omega, hd, ?_⟩
              rw [encF, if_pos h32] at hE
              simpa using hE.symm
            · rw [if_neg h32] at hd
              right
              rw [encF, if_neg h32] at hE hB
              rw [show 7 - (i + 1) = 6 - i by omega]
              refine ⟨⟨by omega, by omega⟩, by omega, by rw [Nat.pow_succ] at hU; omega, fun t ht => ?_, by simp at hE; omega⟩
              have := hB (t + 1) (by simp; omega)
              rw [show q + (t + 1) = q + 1 + t by omega] at this
              simpa using this)
          obtain ⟨D1, g1⟩ : ∃ D1, bits .and .i64 (d : Int) 31 = D1 := ⟨_, rfl⟩
          have hD1 : D1 = ((d % 32 : Nat) : Int) := by rw [← g1]; exact and31 d (by omega)
          clear hx hx0 hd hxd hxb hdg hc HEi HBi hpos
          have hcs : i = 0 ∨ i = 1 ∨ i = 2 ∨ i = 3 ∨ i = 4 ∨ i = 5 ∨ i = 6 := by omega
          clear hi6
          rcases hcs with rfl | rfl | rfl | rfl | rfl | rfl | rfl
          · have hor1 := or_join Vi (d % 32) (5 * 0) hVi (by omega) (by omega)
            obtain ⟨D2, g2⟩ : ∃ D2, wrap64 D1 = D2 := ⟨_, rfl⟩
            have hD2 : D2 = ((d % 32 * 2 ^ (5 * 0) : Nat) : Int) := by rw [← g2, hD1]; unfold wrap64; have : d % 32 < 32 := Nat.mod_lt _ (by omega); omega
            obtain ⟨V1, g3⟩ : ∃ V1, bits .or .i64 (Vi : Int) D2 = V1 := ⟨_, rfl⟩
            obtain ⟨N1, hN1⟩ : ∃ N1, Vi + d % 32 * 2 ^ (5 * 0) = N1 := ⟨_, rfl⟩
            have hV1 : V1 = (N1 : Int) := by rw [← g3, hD2, hor1, hN1]
            have hb : N1 < 2 ^ (5 * 1) := by have : d % 32 < 32 := Nat.mod_lt _ (by omega); omega
            subst hV1
            rcases HC.out with ⟨c1, c2, c3⟩ | ⟨⟨c1, c0⟩, c2, c3, c4, c5⟩
            · have g4 : (bits .and .i64 (d : Int) 32 == 0) = true := by rw [and32 d hd64]; simp; omega
              have HN1 := Lib.hid (show N1 = Z by rw [← hN1, ← HZi.out, c2, Nat.mod_eq_of_lt c1])
              have HE1 := Lib.hid c3
              clear hor1 hD2 hN1 hD1 hVi c1 c2 c3
              go_wp2_with (go_at_call 29; refine (HDG.out _).mono ?_; rintro e w1 ⟨rfl, rfl⟩)
              go_meet
              exact ⟨by rw [HE1.out]; simp, by rw [HN1.out], rfl⟩
            · have g4 : (bits .and .i64 (d : Int) 32 == 0) = false := by rw [and32 d hd64]; simp; omega
              have HZ2 := Lib.hid (show N1 + U / 32 * 2 ^ (5 * (0 + 1)) = Z by rw [← hN1, ← HZi.out, c2, show 5 * (0 + 1) = 5 * 0 + 5 by omega, Nat.pow_add]; have := Nat.div_add_mod U 32; omega)
              have HC3 := Lib.hid c3; have HC4 := Lib.hid c4; have HC5 := Lib.hid c5
              clear hor1 hD2 hN1 hD1 hVi c0 c1 c2 c3 c4 c5
              go_wp2_with (go_at_call 29; refine (HDG.out _).mono ?_; rintro e w1 ⟨rfl, rfl⟩)
              go_roundw
              case rel => exact ⟨0 + 1, q + 1, N1, U / 32, by simp, by trivial, by simp, by trivial, by omega, hb, HZ2, HC3, HC4, HC5, Lib.hid (by have := HQ.out; omega)⟩
              case measure => simp only [intOf]; have := HC5.out; have := encF_pos 5 (U / 32); omega
          · have hor1 := or_join Vi (d % 32) (5 * 1) hVi (by omega) (by omega)
            obtain ⟨D2, g2⟩ : ∃ D2, wrap64 (D1 * 32) = D2 := ⟨_, rfl⟩
            have hD2 : D2 = ((d % 32 * 2 ^ (5 * 1) : Nat) : Int) := by rw [← g2, hD1]; unfold wrap64; have : d % 32 < 32 := Nat.mod_lt _ (by omega); omega
            obtain ⟨V1, g3⟩ : ∃ V1, bits .or .i64 (Vi : Int) D2 = V1 := ⟨_, rfl⟩
            obtain ⟨N1, hN1⟩ : ∃ N1, Vi + d % 32 * 2 ^ (5 * 1) = N1 := ⟨_, rfl⟩
            have hV1 : V1 = (N1 : Int) := by rw [← g3, hD2, hor1, hN1]
            have hb : N1 < 2 ^ (5 * 2) := by have : d % 32 < 32 := Nat.mod_lt _ (by omega); omega
            subst hV1
            rcases HC.out with ⟨c1, c2, c3⟩ | ⟨⟨c1, c0⟩, c2, c3, c4, c5⟩
            · have g4 : (bits .and .i64 (d : Int) 32 == 0) = true := by rw [and32 d hd64]; simp; omega
              have HN1 := Lib.hid (show N1 = Z by rw [← hN1, ← HZi.out, c2, Nat.mod_eq_of_lt c1])
              have HE1 := Lib.hid c3
              clear hor1 hD2 hN1 hD1 hVi c1 c2 c3
              go_wp2_with (go_at_call 29; refine (HDG.out _).mono ?_; rintro e w1 ⟨rfl, rfl⟩)
              go_meet
              exact ⟨by rw [HE1.out]; simp, by rw [HN1.out], rfl⟩
            · have g4 : (bits .and .i64 (d : Int) 32 == 0) = false := by rw [and32 d hd64]; simp; omega
              have HZ2 := Lib.hid (show N1 + U / 32 * 2 ^ (5 * (1 + 1)) = Z by rw [← hN1, ← HZi.out, c2, show 5 * (1 + 1) = 5 * 1 + 5 by omega, Nat.pow_add]; have := Nat.div_add_mod U 32; omega)
              have HC3 := Lib.hid c3; have HC4 := Lib.hid c4; have HC5 := Lib.hid c5
              clear hor1 hD2 hN1 hD1 hVi c0 c1 c2 c3 c4 c5
              go_wp2_with (go_at_call 29; refine (HDG.out _).mono ?_; rintro e w1 ⟨rfl, rfl⟩)
              go_roundw
              case rel => exact ⟨1 + 1, q + 1, N1, U / 32, by simp, by trivial, by simp, by trivial, by omega, hb, HZ2, HC3, HC4, HC5, Lib.hid (by have := HQ.out; omega)⟩
              case measure => simp only [intOf]; have := HC5.out; have := encF_pos 4 (U / 32); omega
          · have hor1 := or_join Vi (d % 32) (5 * 2) hVi (by omega) (by omega)
            obtain ⟨D2, g2⟩ : ∃ D2, wrap64 (D1 * 1024) = D2 := ⟨_, rfl⟩
            have hD2 : D2 = ((d % 32 * 2 ^ (5 * 2) : Nat) : Int) := by rw [← g2, hD1]; unfold wrap64; have : d % 32 < 32 := Nat.mod_lt _ (by omega); omega
            obtain ⟨V1, g3⟩ : ∃ V1, bits .or .i64 (Vi : Int) D2 = V1 := ⟨_, rfl⟩
            obtain ⟨N1, hN1⟩ : ∃ N1, Vi + d % 32 * 2 ^ (5 * 2) = N1 := ⟨_, rfl⟩
            have hV1 : V1 = (N1 : Int) := by rw [← g3, hD2, hor1, hN1]
            have hb : N1 < 2 ^ (5 * 3) := by have : d % 32 < 32 := Nat.mod_lt _ (by omega); omega
            subst hV1
            rcases HC.out with ⟨c1, c2, c3⟩ | ⟨⟨c1, c0⟩, c2, c3, c4, c5⟩
            · have g4 : (bits .and .i64 (d : Int) 32 == 0) = true := by rw [and32 d hd64]; simp; omega
              have HN1 := Lib.hid (show N1 = Z by rw [← hN1, ← HZi.out, c2, Nat.mod_eq_of_lt c1])
              have HE1 := Lib.hid c3
              clear hor1 hD2 hN1 hD1 hVi c1 c2 c3
              go_wp2_with (go_at_call 29; refine (HDG.out _).mono ?_; rintro e w1 ⟨rfl, rfl⟩)
              go_meet
              exact ⟨by rw [HE1.out]; simp, by rw [HN1.out], rfl⟩
            · have g4 : (bits .and .i64 (d : Int) 32 == 0) = false := by rw [and32 d hd64]; simp; omega
              have HZ2 := Lib.hid (show N1 + U / 32 * 2 ^ (5 * (2 + 1)) = Z by rw [← hN1, ← HZi.out, c2, show 5 * (2 + 1) = 5 * 2 + 5 by omega, Nat.pow_add]; have := Nat.div_add_mod U 32; omega)
              have HC3 := Lib.hid c3; have HC4 := Lib.hid c4; have HC5 := Lib.hid c5
              clear hor1 hD2 hN1 hD1 hVi c0 c1 c2 c3 c4 c5
              go_wp2_with (go_at_call 29; refine (HDG.out _).mono ?_; rintro e w1 ⟨rfl, rfl⟩)
              go_roundw
              case rel => exact ⟨2 + 1, q + 1, N1, U / 32, by simp, by trivial, by simp, by trivial, by omega, hb, HZ2, HC3, HC4, HC5, Lib.hid (by have := HQ.out; omega)⟩
              case measure => simp only [intOf]; have := HC5.out; have := encF_pos 3 (U / 32); omega
          · have hor1 := or_join Vi (d % 32) (5 * 3) hVi (by omega) (by omega)
            obtain ⟨D2, g2⟩ : ∃ D2, wrap64 (D1 * 32768) = D2 := ⟨_, rfl⟩
            have hD2 : D2 = ((d % 32 * 2 ^ (5 * 3) : Nat) : Int) := by rw [← g2, hD1]; unfold wrap64; have : d % 32 < 32 := Nat.mod_lt _ (by omega); omega
            obtain ⟨V1, g3⟩ : ∃ V1, bits .or .i64 (Vi : Int) D2 = V1 := ⟨_, rfl⟩
            obtain ⟨N1, hN1⟩ : ∃ N1, Vi + d % 32 * 2 ^ (5 * 3) = N1 := ⟨_, rfl⟩
            have hV1 : V1 = (N1 : Int) := by rw [← g3, hD2, hor1, hN1]
            have hb : N1 < 2 ^ (5 * 4) := by have : d % 32 < 32 := Nat.mod_lt _ (by omega); omega
            subst hV1
            rcases HC.out with ⟨c1, c2, c3⟩ | ⟨⟨c1, c0⟩, c2, c3, c4, c5⟩
            · have g4 : (bits .and .i64 (d : Int) 32 == 0) = true := by rw [and32 d hd64]; simp; omega
              have HN1 := Lib.hid (show N1 = Z by rw [← hN1, ← HZi.out, c2, Nat.mod_eq_of_lt c1])
              have HE1 := Lib.hid c3
              clear hor1 hD2 hN1 hD1 hVi c1 c2 c3
              go_wp2_with (go_at_call 29; refine (HDG.out _).mono ?_; rintro e w1 ⟨rfl, rfl⟩)
              go_meet
              exact ⟨by rw [HE1.out]; simp, by rw [HN1.out], rfl⟩
            · have g4 : (bits .and .i64 (d : Int) 32 == 0) = false := by rw [and32 d hd64]; simp; omega
              have HZ2 := Lib.hid (show N1 + U / 32 * 2 ^ (5 * (3 + 1)) = Z by rw [← hN1, ← HZi.out, c2, show 5 * (3 + 1) = 5 * 3 + 5 by omega, Nat.pow_add]; have := Nat.div_add_mod U 32; omega)
              have HC3 := Lib.hid c3; have HC4 := Lib.hid c4; have HC5 := Lib.hid c5
              clear hor1 hD2 hN1 hD1 hVi c0 c1 c2 c3 c4 c5
              go_wp2_with (go_at_call 29; refine (HDG.out _).mono ?_; rintro e w1 ⟨rfl, rfl⟩)
              go_roundw
              case rel => exact ⟨3 + 1, q + 1, N1, U / 32, by simp, by trivial, by simp, by trivial, by omega, hb, HZ2, HC3, HC4, HC5, Lib.hid (by have := HQ.out; omega)⟩
              case measure => simp only [intOf]; have := HC5.out; have := encF_pos 2 (U / 32); omega
          · have hor1 := or_join Vi (d % 32) (5 * 4) hVi (by omega) (by omega)
            obtain ⟨D2, g2⟩ : ∃ D2, wrap64 (D1 * 1048576) = D2 := ⟨_, rfl⟩
            have hD2 : D2 = ((d % 32 * 2 ^ (5 * 4) : Nat) : Int) := by rw [← g2, hD1]; unfold wrap64; have : d % 32 < 32 := Nat.mod_lt _ (by omega); omega
            obtain ⟨V1, g3⟩ : ∃ V1, bits .or .i64 (Vi : Int) D2 = V1 := ⟨_, rfl⟩
            obtain ⟨N1, hN1⟩ : ∃ N1, Vi + d % 32 * 2 ^ (5 * 4) = N1 := ⟨_, rfl⟩
            have hV1 : V1 = (N1 : Int) := by rw [← g3, hD2, hor1, hN1]
            have hb : N1 < 2 ^ (5 * 5) := by have : d % 32 < 32 := Nat.mod_lt _ (by omega); omega
            subst hV1
            rcases HC.out with ⟨c1, c2, c3⟩ | ⟨⟨c1, c0⟩, c2, c3, c4, c5⟩
            · have g4 : (bits .and .i64 (d : Int) 32 == 0) = true := by rw [and32 d hd64]; simp; omega
              have HN1 := Lib.hid (show N1 = Z by rw [← hN1, ← HZi.out, c2, Nat.mod_eq_of_lt c1])
              have HE1 := Lib.hid c3
              clear hor1 hD2 hN1 hD1 hVi c1 c2 c3
              go_wp2_with (go_at_call 29; refine (HDG.out _).mono ?_; rintro e w1 ⟨rfl, rfl⟩)
              go_meet
              exact ⟨by rw [HE1.out]; simp, by rw [HN1.out], rfl⟩
            · have g4 : (bits .and .i64 (d : Int) 32 == 0) = false := by rw [and32 d hd64]; simp; omega
              have HZ2 := Lib.hid (show N1 + U / 32 * 2 ^ (5 * (4 + 1)) = Z by rw [← hN1, ← HZi.out, c2, show 5 * (4 + 1) = 5 * 4 + 5 by omega, Nat.pow_add]; have := Nat.div_add_mod U 32; omega)
              have HC3 := Lib.hid c3; have HC4 := Lib.hid c4; have HC5 := Lib.hid c5
              clear hor1 hD2 hN1 hD1 hVi c0 c1 c2 c3 c4 c5
              go_wp2_with (go_at_call 29; refine (HDG.out _).mono ?_; rintro e w1 ⟨rfl, rfl⟩)
              go_roundw
              case rel => exact ⟨4 + 1, q + 1, N1, U / 32, by simp, by trivial, by simp, by trivial, by omega, hb, HZ2, HC3, HC4, HC5, Lib.hid (by have := HQ.out; omega)⟩
              case measure => simp only [intOf]; have := HC5.out; have := encF_pos 1 (U / 32); omega
          · have hor1 := or_join Vi (d % 32) (5 * 5) hVi (by omega) (by omega)
            obtain ⟨D2, g2⟩ : ∃ D2, wrap64 (D1 * 33554432) = D2 := ⟨_, rfl⟩
            have hD2 : D2 = ((d % 32 * 2 ^ (5 * 5) : Nat) : Int) := by rw [← g2, hD1]; unfold wrap64; have : d % 32 < 32 := Nat.mod_lt _ (by omega); omega
            obtain ⟨V1, g3⟩ : ∃ V1, bits .or .i64 (Vi : Int) D2 = V1 := ⟨_, rfl⟩
            obtain ⟨N1, hN1⟩ : ∃ N1, Vi + d % 32 * 2 ^ (5 * 5) = N1 := ⟨_, rfl⟩
            have hV1 : V1 = (N1 : Int) := by rw [← g3, hD2, hor1, hN1]
            have hb : N1 < 2 ^ (5 * 6) := by have : d % 32 < 32 := Nat.mod_lt _ (by omega); omega
            subst hV1
            rcases HC.out with ⟨c1, c2, c3⟩ | ⟨⟨c1, c0⟩, c2, c3, c4, c5⟩
            · have g4 : (bits .and .i64 (d : Int) 32 == 0) = true := by rw [and32 d hd64]; simp; omega
              have HN1 := Lib.hid (show N1 = Z by rw [← hN1, ← HZi.out, c2, Nat.mod_eq_of_lt c1])
              have HE1 := Lib.hid c3
              clear hor1 hD2 hN1 hD1 hVi c1 c2 c3
              go_wp2_with (go_at_call 29; refine (HDG.out _).mono ?_; rintro e w1 ⟨rfl, rfl⟩)
              go_meet
              exact ⟨by rw [HE1.out]; simp, by rw [HN1.out], rfl⟩
            · have g4 : (bits .and .i64 (d : Int) 32 == 0) = false := by rw [and32 d hd64]; simp; omega
              have HZ2 := Lib.hid (show N1 + U / 32 * 2 ^ (5 * (5 + 1)) = Z by rw [← hN1, ← HZi.out, c2, show 5 * (5 + 1) = 5 * 5 + 5 by omega, Nat.pow_add]; have := Nat.div_add_mod U 32; omega)
              have HC3 := Lib.hid c3; have HC4 := Lib.hid c4; have HC5 := Lib.hid c5
              clear hor1 hD2 hN1 hD1 hVi c0 c1 c2 c3 c4 c5
              go_wp2_with (go_at_call 29; refine (HDG.out _).mono ?_; rintro e w1 ⟨rfl, rfl⟩)
              go_roundw
              case rel => exact ⟨5 + 1, q + 1, N1, U / 32, by simp, by trivial, by simp, by trivial, by omega, hb, HZ2, HC3, HC4, HC5, Lib.hid (by have := HQ.out; omega)⟩
              case measure => simp only [intOf]; have := HC5.out; have := encF_pos 0 (U / 32); omega
          · have hor1 := or_join Vi (d % 32) (5 * 6) hVi (by omega) (by omega)
            obtain ⟨D2, g2⟩ : ∃ D2, wrap64 (D1 * 1073741824) = D2 := ⟨_, rfl⟩
            have hD2 : D2 = ((d % 32 * 2 ^ (5 * 6) : Nat) : Int) := by rw [← g2, hD1]; unfold wrap64; have : d % 32 < 32 := Nat.mod_lt _ (by omega); omega
            obtain ⟨V1, g3⟩ : ∃ V1, bits .or .i64 (Vi : Int) D2 = V1 := ⟨_, rfl⟩
            obtain ⟨N1, hN1⟩ : ∃ N1, Vi + d % 32 * 2 ^ (5 * 6) = N1 := ⟨_, rfl⟩
            have hV1 : V1 = (N1 : Int) := by rw [← g3, hD2, hor1, hN1]
            have hb : N1 < 2 ^ (5 * 7) := by have : d % 32 < 32 := Nat.mod_lt _ (by omega); omega
            subst hV1
            rcases HC.out with ⟨c1, c2, c3⟩ | ⟨⟨c1, c0⟩, c2, c3, c4, c5⟩
            · have g4 : (bits .and .i64 (d : Int) 32 == 0) = true := by rw [and32 d hd64]; simp; omega
              have HN1 := Lib.hid (show N1 = Z by rw [← hN1, ← HZi.out, c2, Nat.mod_eq_of_lt c1])
              have HE1 := Lib.hid c3
              clear hor1 hD2 hN1 hD1 hVi c1 c2 c3
              go_wp2_with (go_at_call 29; refine (HDG.out _).mono ?_; rintro e w1 ⟨rfl, rfl⟩)
              go_meet
              exact ⟨by rw [HE1.out]; simp, by rw [HN1.out], rfl⟩
            · exfalso
              have := HUi.out
              omega
      case rest =>
        obtain ⟨rfl, rfl, rfl⟩ := hcut
        have q1 := RowG.cell (d := 0) HF1.out.v (j := j) (by rw [HLV.out]; exact hj6)
        have q2 := RowG.frozen HF1.out.v j
        obtain ⟨o2, ho2⟩ : ∃ o, (fl6 ds j).getD j 0 = o := ⟨_, rfl⟩
        rw [ho2] at q1
        have HF2 := Lib.hid (show Four w (wr1.setCell ⟨w.heap.size + 1 + 1, j, none⟩ (.int .i64 D)) w.heap.size (fl6 ds (j + 1)) (fl6 (sts n P) (j + 1)) from by
          refine ⟨(heap_set_other j _ (by omega)).trans HF1.out.z0, (heap_set_other j _ (by omega)).trans HF1.out.z1, ?_, (heap_set_other j _ (by omega)).trans HF1.out.s, HF1.out.be.setCell (by simp; omega) _⟩
          have h1 := HF1.out.v.set j D
          have h2 := fl6_set ds j hj6 (by rw [Hn.out]; exact hj)
          rw [HDj.out] at h2
          rw [h2] at h1
          exact h1)
        obtain ⟨wr2, hw2⟩ : ∃ x, wr1.setCell ⟨w.heap.size + 1 + 1, j, none⟩ (.int .i64 D) = x := ⟨_, rfl⟩
        rw [hw2] at HF2
        have HW2 := Lib.hid hw2
        clear ho2 hw2
        by_cases hneg : D < 0
        · obtain ⟨m, hm⟩ : ∃ m : Nat, D = -(m : Int) := ⟨(-D).toNat, by omega⟩
          subst hm
          have hZm : Z = 2 * m + 1 := by rw [← HZj.out]; unfold zig; rw [if_pos hneg]; omega
          have g5 : (bits .and .i64 (Z : Int) 1 != 0) = true := by rw [and1 Z (by omega), show Z % 2 = 1 by omega]; rfl
          have g6 : (Z : Int) / 2 = (m : Int) := by omega
          clear hZm hneg
          go_wp2_with fail
          rw [HW2.out]
          go_roundw
          case rel => exact ⟨j + 1, E, by simp, rfl, by omega, HEj, HF2⟩
          case measure => simp only [intOf]; omega
        · obtain ⟨m, hm⟩ : ∃ m : Nat, D = (m : Int) := ⟨D.toNat, by omega⟩
          subst hm
          have hZm : Z = 2 * m := by rw [← HZj.out]; unfold zig; rw [if_neg hneg]; omega
          have g5 : (bits .and .i64 (Z : Int) 1 != 0) = false := by rw [and1 Z (by omega), show Z % 2 = 0 by omega]; rfl
          have g6 : (Z : Int) / 2 = (m : Int) := by omega
          clear hZm hneg
          go_wp2_with fail
          rw [HW2.out]
          go_roundw
          case rel => exact ⟨j + 1, E, by simp, rfl, by omega, HEj, HF2⟩
          case measure => simp only [intOf]; omega
    · obtain rfl : j = n := by omega
      have hpe : p = en := by rw [← HPj.out, ← Hn.out]; exact HS.out.pn
      subst hpe
      have hl6 : (fl6 ds j).length = 6 := fl6_len ds j (by rw [Hn.out]; omega) (by omega)
      have hl6s : (fl6 (sts j P) j).length = 6 := fl6_len _ j (by rw [sts_len]; omega) (by omega)
      obtain ⟨a0, a1, a2, a3, a4, a5, af⟩ := HF.out.v.six hl6
      obtain ⟨b0, b1, b2, b3, b4, b5, bf⟩ := HF.out.s.six hl6s
      obtain ⟨x0, x1, x2, x3, x4, x5, xf⟩ := HF.out.z0.six rfl
      obtain ⟨y0, y1, y2, y3, y4, y5, yf⟩ := HF.out.z1.six rfl
      obtain ⟨g0, e0⟩ : ∃ x, (fl6 ds j).getD 0 0 = x := ⟨_, rfl⟩
      obtain ⟨h0, f0⟩ : ∃ x, (fl6 (sts j P) j).getD 0 0 = x := ⟨_, rfl⟩
      rw [e0] at a0; rw [f0] at b0
      obtain ⟨g1, e1⟩ : ∃ x, (fl6 ds j).getD 1 0 = x := ⟨_, rfl⟩
      obtain ⟨h1, f1⟩ : ∃ x, (fl6 (sts j P) j).getD 1 0 = x := ⟨_, rfl⟩
      rw [e1] at a1; rw [f1] at b1
      obtain ⟨g2, e2⟩ : ∃ x, (fl6 ds j).getD 2 0 = x := ⟨_, rfl⟩
      obtain ⟨h2, f2⟩ : ∃ x, (fl6 (sts j P) j).getD 2 0 = x := ⟨_, rfl⟩
      rw [e2] at a2; rw [f2] at b2
      obtain ⟨g3, e3⟩ : ∃ x, (fl6 ds j).getD 3 0 = x := ⟨_, rfl⟩
      obtain ⟨h3, f3⟩ : ∃ x, (fl6 (sts j P) j).getD 3 0 = x := ⟨_, rfl⟩
      rw [e3] at a3; rw [f3] at b3
      obtain ⟨g4, e4⟩ : ∃ x, (fl6 ds j).getD 4 0 = x := ⟨_, rfl⟩
      obtain ⟨h4, f4⟩ : ∃ x, (fl6 (sts j P) j).getD 4 0 = x := ⟨_, rfl⟩
      rw [e4] at a4; rw [f4] at b4
      obtain ⟨g5, e5⟩ : ∃ x, (fl6 ds j).getD 5 0 = x := ⟨_, rfl⟩
      obtain ⟨h5, f5⟩ : ∃ x, (fl6 (sts j P) j).getD 5 0 = x := ⟨_, rfl⟩
      rw [e5] at a5; rw [f5] at b5
      have EA := Lib.hid (show arr6 (fl6 ds j) = .agg #[.int .i64 g0, .int .i64 g1, .int .i64 g2, .int .i64 g3, .int .i64 g4, .int .i64 g5] by unfold arr6; rw [e0, e1, e2, e3, e4, e5])
      have EB := Lib.hid (show arr6 (fl6 (sts j P) j) = .agg #[.int .i64 h0, .int .i64 h1, .int .i64 h2, .int .i64 h3, .int .i64 h4, .int .i64 h5] by unfold arr6; rw [f0, f1, f2, f3, f4, f5])
      clear hl6 hl6s e0 e1 e2 e3 e4 e5 f0 f1 f2 f3 f4 f5
      go_wp2_with fail
      go_region
      all_goals
        go_wp2_with fail
        have k0 := (((((HF.out.z0.set 0 g0).set 1 g1).set 2 g2).set 3 g3).set 4 g4).set 5 g5
        obtain ⟨wA, hwA⟩ : ∃ x, (((((wr.setCell ⟨w.heap.size, 0, none⟩ (.int .i64 g0)).setCell ⟨w.heap.size, 1, none⟩ (.int .i64 g1)).setCell ⟨w.heap.size, 2, none⟩ (.int .i64 g2)).setCell ⟨w.heap.size, 3, none⟩ (.int .i64 g3)).setCell ⟨w.heap.size, 4, none⟩ (.int .i64 g4)).setCell ⟨w.heap.size, 5, none⟩ (.int .i64 g5) = x := ⟨_, rfl⟩
        have k1 : R6 wA (w.heap.size + 1) [0, 0, 0, 0, 0, 0] := by
          rw [← hwA]
          have hne : w.heap.size + 1 ≠ w.heap.size := by omega
          exact (heap_set_other 5 _ hne).trans ((heap_set_other 4 _ hne).trans ((heap_set_other 3 _ hne).trans ((heap_set_other 2 _ hne).trans ((heap_set_other 1 _ hne).trans ((heap_set_other 0 _ hne).trans HF.out.z1)))))
        have bA : Below w.heap.size w wA := by
          rw [← hwA]
          exact (((((HF.out.be.setCell (Nat.le_refl _) _).setCell (Nat.le_refl _) _).setCell (Nat.le_refl _) _).setCell (Nat.le_refl _) _).setCell (Nat.le_refl _) _).setCell (Nat.le_refl _) _
        rw [hwA] at k0 ⊢
        have k2 := (((((k1.set 0 h0).set 1 h1).set 2 h2).set 3 h3).set 4 h4).set 5 h5
        obtain ⟨wB, hwB⟩ : ∃ x, (((((wA.setCell ⟨w.heap.size + 1, 0, none⟩ (.int .i64 h0)).setCell ⟨w.heap.size + 1, 1, none⟩ (.int .i64 h1)).setCell ⟨w.heap.size + 1, 2, none⟩ (.int .i64 h2)).setCell ⟨w.heap.size + 1, 3, none⟩ (.int .i64 h3)).setCell ⟨w.heap.size + 1, 4, none⟩ (.int .i64 h4)).setCell ⟨w.heap.size + 1, 5, none⟩ (.int .i64 h5) = x := ⟨_, rfl⟩
        have k3 : wB.heap[w.heap.size]? = wA.heap[w.heap.size]? := by
          rw [← hwB]
          have hne : w.heap.size ≠ w.heap.size + 1 := by omega
          exact (heap_set_other 5 _ hne).trans ((heap_set_other 4 _ hne).trans ((heap_set_other 3 _ hne).trans ((heap_set_other 2 _ hne).trans ((heap_set_other 1 _ hne).trans (heap_set_other 0 _ hne)))))
        have bB : Below w.heap.size w wB := by
          rw [← hwB]
          have hle : w.heap.size ≤ w.heap.size + 1 := by omega
          exact (((((bA.setCell hle _).setCell hle _).setCell hle _).setCell hle _).setCell hle _).setCell hle _
        rw [hwB] at k2 ⊢
        have f0 : wB.drew.heap[w.heap.size]? = some (.cells #[.int .i64 g0, .int .i64 g1, .int .i64 g2, .int .i64 g3, .int .i64 g4, .int .i64 g5] 37 (0, 0)) := k3.trans k0
        have f1 : wB.drew.heap[w.heap.size + 1]? = some (.cells #[.int .i64 h0, .int .i64 h1, .int .i64 h2, .int .i64 h3, .int .i64 h4, .int .i64 h5] 37 (0, 0)) := k2
        refine bodyPost_ret (v := .tuple #[arr6 (fl6 ds j), arr6 (fl6 (sts j P) j), .int .i64 j, .bool true]) ?_ rfl ⟨rfl, bB.drew⟩
        rw [EA.out, EB.out, results_ccss rfl]
        simp [asAddr, Result.andThen, run_loadVar_row _ w.heap.size 37 37 _ (0, 0) _ f0 Tryd.underlying37 rfl (by kernel_rfl), run_loadVar_row _ (w.heap.size + 1) 37 37 _ (0, 0) _ f1 Tryd.underlying37 rfl (by kernel_rfl)]
end Go.Proofs.YtlplikpjnocdfaaDoor
