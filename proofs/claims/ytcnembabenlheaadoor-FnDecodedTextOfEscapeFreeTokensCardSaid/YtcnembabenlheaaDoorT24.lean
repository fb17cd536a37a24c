/-
  decodeEscapesInToken on runes without a backslash.
-/
import Derived.Test.YtcnembabenlheaaDoorT23
namespace Go.Proofs.YtcnembabenlheaaDoor
open Go.ChangeShapes Go.WideShapes Go.ChangeAt Go.RowKit
open Go.Lib (decodeGo encodeRuneZ encodeRuneZ_length)
set_option linter.unusedVariables false
def u8s (xs : List Int) : List UInt8 := xs.map fun n => UInt8.ofNat n.toNat
theorem strOf_u8s (xs : List Int) : strOfNums xs = ⟨(u8s xs).toArray⟩ := rfl
theorem u8s_app (a b : List Int) : u8s (a ++ b) = u8s a ++ u8s b := by simp [u8s]
theorem u8s_len (a : List Int) : (u8s a).length = a.length := by simp [u8s]
theorem cells_str (xs : List Int) : Lib.strCells (strOfNums xs) = Lib.byteCells (u8s xs) := rfl
theorem cells_rune (xs : List Int) (r : Int) : Lib.byteCells (u8s xs) ++ Lib.runeCells r = Lib.byteCells (u8s (xs ++ encodeRuneZ r)) := by
  rw [u8s_app, Lib.byteCells_append, ← Lib.byteCells_encodeRune]; rfl
theorem byt_enc (rs : List Int) (i : Nat) (h : i < (encs rs).length) : (byt (strOfNums (encs rs)) i : Int) = (encs rs).getD i 0 := bytN _ (encs_byte rs) i h
theorem getD_mem (xs : List Int) (i : Nat) (h : i < xs.length) : xs.getD i 0 ∈ xs := by simp [List.getD, h]
set_option maxRecDepth 100000 in
set_option maxHeartbeats 4000000 in
theorem de35_id (rs : List Int) (h92 : ∀ r ∈ rs, r ≠ 92) (h0 : ∀ r ∈ rs, r ≠ 0) (S : ByteArray) (hS : strOfNums (encs rs) = S) (hs : S.size ≤ 1048576) (w : World) : Calls Tryd.prog 35 #[.string S] w fun e w' => e = .returned (.string S) ∧ w = w' := by
  have hb : ∀ i, i < S.size → byt S i ≠ 92 ∧ byt S i ≠ 0 := by
    intro i hi
    have hi' : i < (encs rs).length := by rw [← hS, strOfNums_size] at hi; exact hi
    have e := byt_enc rs i hi'
    rw [hS] at e
    have m := getD_mem _ _ hi'
    have a := no92 rs h92 _ m
    have b : (encs rs).getD i 0 ≠ 0 := by
      simp only [encs, List.mem_flatMap] at m
      obtain ⟨r, hr, h2⟩ := m
      exact (enc_bytes r).1 (h0 r hr) _ h2
    constructor <;> omega
  have HBt := Lib.hid hb
  clear hb hS h92 h0
  go_enter Tryd.func35, Tryd.ntmps35
  go_wp2_with fail
  go_loopw [3] (fun iv w' => ∃ i : Nat, iv = .int .i64 i ∧ w = w' ∧ i ≤ S.size) (fun iv w' => S.size - (intOf iv).toNat)
  case atStart => exact ⟨0, rfl, rfl, by omega⟩
  case round =>
    obtain ⟨i, rfl, rfl, hi⟩ := hrel
    by_cases hlt : i < S.size
    · have HB := Lib.hid (byt_at S i hlt)
      obtain ⟨C, hC⟩ : ∃ C, (S[i]'hlt).toNat = C := ⟨_, rfl⟩
      have hC' : ((S[i]'hlt).toNat : Int) = (C : Int) := by omega
      have hcb := HBt.out i hlt
      have e1 : ((C : Int) == 92) = false := by rw [beq_eq_false_iff_ne]; have := HB.out; omega
      have e2 : ((C : Int) == 0) = false := by rw [beq_eq_false_iff_ne]; have := HB.out; omega
      clear hC hcb
      go_wp2_with fail
      go_roundw
      case rel => exact ⟨i + 1, by simp, by trivial, by omega⟩
      case measure => simp only [intOf]; omega
    · obtain rfl : i = S.size := by omega
      go_wp2_with fail
      go_ret
      exact ⟨rfl, rfl⟩
theorem isb_keep {B b : Nat} {bs : List Value} {w w' : World} (h : Lib.IsBuilder 116 5 B b bs w) (hb : Below w.heap.size w w') : Lib.IsBuilder 116 5 B b bs w' := by
  have key : ∀ p, Lib.BuilderAt 116 5 B b p bs w → Lib.BuilderAt 116 5 B b p bs w' := by
    rintro p ⟨h1, v, h2, h3, h4⟩
    refine ⟨h1, v, ?_, ?_, h4⟩
    · rw [hb.block b (Array.getElem?_eq_some_iff.1 h2).1]; exact h2
    · rcases h3 with ⟨hl, h0 | ⟨g, cap, cur, rfl, hB, hg, hr⟩⟩
      · exact ⟨hl, Or.inl h0⟩
      · exact ⟨hl, Or.inr ⟨g, cap, cur, rfl, hB, by rw [hb.block g (Array.getElem?_eq_some_iff.1 hg).1]; exact hg, hr⟩⟩
  rcases h with h | h
  · exact Or.inl (key _ h)
  · exact Or.inr (key _ h)
def strSz : Value → Nat
  | .string s => s.size
  | _ => 0
theorem fix_0 (r : Int) : fixR r = 0 ↔ r = 0 := by unfold fixR; split <;> omega
theorem fix_92 (r : Int) (h : r ≠ 92) : fixR r ≠ 92 := by unfold fixR; split <;> omega
theorem bl_len (done : List Int) : (Lib.byteCells (u8s (encs (done.map clean)))).length ≤ 4 * done.length := by
  rw [Lib.byteCells_length, u8s_len]
  have := encs_len (done.map clean)
  simpa using this
theorem enc_clean (done : List Int) (r : Int) : encs ((done ++ [r]).map clean) = encs (done.map clean) ++ encodeRuneZ (clean r) := by
  rw [List.map_append, encs_app]; simp [encs]
def RelD (w : World) (all : List Int) (b : Nat) (rest : List Int) (w' : World) : Prop := ∃ done : List Int, done ++ rest = all ∧ Lib.IsBuilder 116 5 w.heap.size b (Lib.byteCells (u8s (encs (done.map clean)))) w' ∧ Below w.heap.size w w'
set_option maxRecDepth 100000 in
set_option maxHeartbeats 4000000 in
theorem de35_nul (rs1 rs2 : List Int) (h92 : ∀ r ∈ rs1 ++ 0 :: rs2, r ≠ 92) (h0 : ∀ r ∈ rs1, r ≠ 0) (hlen : (rs1 ++ 0 :: rs2).length ≤ 65540) (S : ByteArray) (hS : strOfNums (encs (rs1 ++ 0 :: rs2)) = S) (hs : S.size ≤ 1048576) (w : World) (hT : Lib.Utf8Tabs 0 1 w) :
    Calls Tryd.prog 35 #[.string S] w fun e w' => e = .returned (.string (strOfNums (encs ((rs1 ++ 0 :: rs2).map clean)))) ∧ Below w.heap.size w w' := by
  obtain ⟨n1, hn1⟩ : ∃ n, (encs rs1).length = n := ⟨_, rfl⟩
  have hL : encs (rs1 ++ 0 :: rs2) = encs rs1 ++ encs (0 :: rs2) := encs_app _ _
  have hn1s : n1 < S.size := by rw [← hS, strOfNums_size, hL, encs_cons, enc0]; simp; omega
  have hb : ∀ i, i < n1 → byt S i ≠ 92 ∧ byt S i ≠ 0 := by
    intro i hi
    have hi' : i < (encs rs1).length := by omega
    have e := byt_enc (rs1 ++ 0 :: rs2) i (by rw [hL]; simp; omega)
    rw [hS, hL, get_l _ _ _ hi'] at e
    have m := getD_mem _ _ hi'
    have a := no92 rs1 (fun r hr => h92 r (by simp [hr])) _ m
    have b : (encs rs1).getD i 0 ≠ 0 := by
      simp only [encs, List.mem_flatMap] at m
      obtain ⟨r, hr, h2⟩ := m
      exact (enc_bytes r).1 (h0 r hr) _ h2
    constructor <;> omega
  have hz : byt S n1 = 0 := by
    have e := byt_enc (rs1 ++ 0 :: rs2) n1 (by rw [hL, encs_cons, enc0]; simp; omega)
    rw [hS, hL, encs_cons, enc0] at e
    have : (encs rs1 ++ ([0] ++ encs rs2)).getD n1 0 = 0 := by rw [← hn1]; simp [List.getD]
    omega
  have hx1 : S.extract 0 n1 = strOfNums (encs rs1) := by rw [← hS, ← hn1, hL]; exact str_take _ _
  have hx2 : S.extract n1 S.size = strOfNums (encs (0 :: rs2)) := by rw [← hS, ← hn1, hL]; exact str_drop _ _
  obtain ⟨P1, hP1⟩ : ∃ P, strOfNums (encs rs1) = P := ⟨_, rfl⟩
  obtain ⟨P2, hP2⟩ : ∃ P, strOfNums (encs (0 :: rs2)) = P := ⟨_, rfl⟩
  rw [hP1] at hx1
  rw [hP2] at hx2
  have hP1s : P1.size ≤ 1048576 := by rw [← hP1, strOfNums_size]; omega
  have HBt := Lib.hid hb; have HZ := Lib.hid hz; have HP1 := Lib.hid hP1; have HP2 := Lib.hid hP2; have HT := Lib.hid hT; have H92 := Lib.hid h92; have HLn := Lib.hid hlen
  obtain ⟨all, hall⟩ : ∃ all, rs1 ++ 0 :: rs2 = all := ⟨_, rfl⟩
  have HALL := Lib.hid hall
  rw [hall] at H92 HLn ⊢
  have HC1 := Lib.hid (clean_same rs1 h0)
  clear hb hz hP1 hP2 hT h92 hlen hL hS hall h0 hn1
  go_enter Tryd.func35, Tryd.ntmps35
  go_wp2_with fail
  go_loopw [3] (fun iv w' => ∃ i : Nat, iv = .int .i64 i ∧ w = w' ∧ i ≤ n1) (fun iv w' => S.size - (intOf iv).toNat)
  case atStart => exact ⟨0, rfl, rfl, by omega⟩
  case round =>
    obtain ⟨i, rfl, rfl, hi⟩ := hrel
    have hlt : i < S.size := by omega
    have HB := Lib.hid (byt_at S i hlt)
    obtain ⟨C, hC⟩ : ∃ C, (S[i]'hlt).toNat = C := ⟨_, rfl⟩
    have hC' : ((S[i]'hlt).toNat : Int) = (C : Int) := by omega
    by_cases hin : i < n1
    · have hcb := HBt.out i hin
      have e1 : ((C : Int) == 92) = false := by rw [beq_eq_false_iff_ne]; have := HB.out; omega
      have e2 : ((C : Int) == 0) = false := by rw [beq_eq_false_iff_ne]; have := HB.out; omega
      clear hC hcb
      go_wp2_with fail
      go_roundw
      case rel => exact ⟨i + 1, by simp, by trivial, by omega⟩
      case measure => simp only [intOf]; omega
    · obtain rfl : i = n1 := by omega
      obtain rfl : C = 0 := by have := HB.out; have := HZ.out; omega
      have e3 : ((i : Int) == (S.size : Int)) = false := by rw [beq_eq_false_iff_ne]; omega
      clear hC
      go_wp2_with fail
      refine (ws41 w.heap.size w.heap.size [] P1 _ (Lib.fresh_isBuilder 116 5 w) (by simp) (by omega) (by simp)).mono ?_
      rintro e w1 ⟨⟨k1, rfl⟩, hI, hb1⟩
      have HI1 := Lib.hid (show Lib.IsBuilder 116 5 w.heap.size w.heap.size (Lib.byteCells (u8s (encs (rs1.map clean)))) w1 by rw [HC1.out, ← cells_str, HP1.out]; simpa using hI)
      have KB1 := Lib.hid (((Below.refl w.heap.size w).alloc (Nat.le_refl _) _).trans hb1)
      have hP2s : P2.size ≤ 1048576 := by rw [← hx2]; simp; omega
      have HP2s := Lib.hid hP2s
      clear hI hb1 hP2s e3
      dsimp only
      go_wp2_with fail
      go_loopw [0] (fun sv w' => ∃ (rest : List Int) (T : ByteArray), sv = .string T ∧ strOfNums (encs rest) = T ∧ T.size ≤ 1048576 ∧ Hid (RelD w all w.heap.size rest w')) (fun sv w' => strSz sv)
      case atStart => exact ⟨0 :: rs2, P2, rfl, HP2.out, HP2s.out, Lib.hid ⟨rs1, HALL.out, HI1.out, KB1.out⟩⟩
      case round =>
        obtain ⟨rest, T, rfl, hT, hTs, HR⟩ := hrel
        obtain ⟨done, hd, hI, hB⟩ := HR.out
        have HI := Lib.hid hI; have KB := Lib.hid hB; have HD := Lib.hid hd; have HTq := Lib.hid hT
        have HTb := Lib.hid (tabs_below HT.out hB)
        have hdl : (Lib.byteCells (u8s (encs (done.map clean)))).length ≤ 4194304 := by
          have h1 := bl_len done
          have h2 := HLn.out
          rw [← hd, List.length_append] at h2
          omega
        have HDL := Lib.hid hdl; have HSZ := Lib.hid hB.size
        clear hI hB hd hdl HR HI1 KB1 hx1 hx2
        cases rest with
        | nil =>
          have h0 : T.size = 0 := by rw [← hT]; rfl
          have HF := Lib.hid (show done = all by rw [← HD.out]; simp)
          clear hT
          go_wp2_with fail
          refine (Tryd.Builder_String_any w.heap.size w.heap.size _ _ HI.out HSZ.out).mono ?_
          rintro e w2 ⟨rfl, be⟩
          have K2 := Lib.hid (KB.out.trans be)
          clear be
          dsimp only
          go_wp2_with fail
          go_ret
          exact ⟨by rw [← HF.out]; rfl, K2.out⟩
        | cons r rest =>
          have hde := enc_dec r (encs rest) (encs_byte rest)
          have hdr := str_drop (encodeRuneZ r) (encs rest)
          rw [← encs_cons, hT] at hde hdr
          obtain ⟨C, hC⟩ : ∃ C, (fixR r).toNat = C := ⟨_, rfl⟩
          obtain ⟨K, hK⟩ : ∃ K, (encodeRuneZ r).length = K := ⟨_, rfl⟩
          obtain ⟨T', hT'⟩ : ∃ T', strOfNums (encs rest) = T' := ⟨_, rfl⟩
          rw [hC, hK] at hde
          rw [hK, hT'] at hdr
          have hkl := encodeRuneZ_length r
          rw [hK] at hkl
          have hts : T.size = K + T'.size := by rw [← hT, ← hT', strOfNums_size, strOfNums_size, encs_cons, List.length_append, hK]
          have hpos : 0 < T.size := by omega
          have hKs : K ≤ T.size := by omega
          have hfr := fixR_rng r
          have hr92 : r ≠ 92 := H92.out r (by rw [← HD.out]; simp)
          have hC92 : ((C : Int) != 92) = true := by have := fix_92 r hr92; simp; omega
          have HCq := Lib.hid (show (C : Int) = fixR r by omega)
          have HDE := Lib.hid hde; have HTq' := Lib.hid hT'
          have HCl := Lib.hid (show done ++ [r] ++ rest = all by rw [← HD.out]; simp)
          have hTs' : T'.size ≤ 1048576 := by omega
          have hlt2 : T'.size < T.size := by omega
          have hC0 : (C : Int) ≤ 1114111 := by omega
          clear hde hC hK hkl hts hfr hr92 hT hT'
          by_cases hr0 : r = 0
          · have hCz : C = 0 := by have := HCq.out; rw [(fix_0 r).2 hr0] at this; omega
            subst hCz
            have HAC := Lib.hid (show Lib.byteCells (u8s (encs (done.map clean))) ++ Lib.runeCells 65533 = Lib.byteCells (u8s (encs ((done ++ [r]).map clean))) by rw [cells_rune, enc_clean, hr0]; rfl)
            clear hr0
            go_wp2_with fail
            refine (dec37 T _ HTb.out 0 K (by rw [HDE.out]) (by rw [HDE.out])).mono ?_
            rintro e w2 ⟨rfl, be⟩
            have HI2 := Lib.hid (isb_keep HI.out be); have KB2 := Lib.hid (KB.out.trans (be.mono HSZ.out))
            clear be
            dsimp only
            go_wp2_with fail
            refine (wr42 w.heap.size w.heap.size _ 65533 (by omega) (by omega) w2 HI2.out HDL.out KB2.out.size).mono ?_
            rintro e w3 ⟨⟨k3, rfl⟩, hI3, hb3⟩
            have HI3 := Lib.hid (show Lib.IsBuilder 116 5 w.heap.size w.heap.size (Lib.byteCells (u8s (encs ((done ++ [r]).map clean)))) w3 by rw [← HAC.out]; exact hI3)
            have KB3 := Lib.hid (KB2.out.trans hb3)
            clear hI3 hb3
            dsimp only
            go_wp2_with fail
            go_roundw
            case rel => exact ⟨rest, T', by trivial, HTq'.out, hTs', Lib.hid ⟨done ++ [r], HCl.out, HI3.out, KB3.out⟩⟩
            case measure => simp only [strSz]; exact hlt2
          · have hCz : ((C : Int) == 0) = false := by
              rw [beq_eq_false_iff_ne]; intro h; exact hr0 ((fix_0 r).1 (by rw [← HCq.out]; exact h))
            have HAC := Lib.hid (show Lib.byteCells (u8s (encs (done.map clean))) ++ Lib.runeCells (C : Int) = Lib.byteCells (u8s (encs ((done ++ [r]).map clean))) by
              rw [cells_rune, enc_clean, HCq.out, enc_fix]; simp [clean, hr0])
            clear hr0
            go_wp2_with fail
            refine (dec37 T _ HTb.out C K (by rw [HDE.out]) (by rw [HDE.out])).mono ?_
            rintro e w2 ⟨rfl, be⟩
            have HI2 := Lib.hid (isb_keep HI.out be); have KB2 := Lib.hid (KB.out.trans (be.mono HSZ.out))
            clear be
            dsimp only
            go_wp2_with fail
            refine (wr42 w.heap.size w.heap.size _ (C : Int) (by omega) (by omega) w2 HI2.out HDL.out KB2.out.size).mono ?_
            rintro e w3 ⟨⟨k3, rfl⟩, hI3, hb3⟩
            have HI3 := Lib.hid (show Lib.IsBuilder 116 5 w.heap.size w.heap.size (Lib.byteCells (u8s (encs ((done ++ [r]).map clean)))) w3 by rw [← HAC.out]; exact hI3)
            have KB3 := Lib.hid (KB2.out.trans hb3)
            clear hI3 hb3
            dsimp only
            go_wp2_with fail
            go_roundw
            case rel => exact ⟨rest, T', by trivial, HTq'.out, hTs', Lib.hid ⟨done ++ [r], HCl.out, HI3.out, KB3.out⟩⟩
            case measure => simp only [strSz]; exact hlt2
end Go.Proofs.YtcnembabenlheaaDoor
