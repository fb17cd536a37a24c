/-
  What encodeVLQ wrote is read back: plainly; the walk of FnDecodeVLQInvertsEncodeVLQ.
-/
import Derived.Test.YtbigamkmkmfdfaaDoorM1
import Derived.Test.YtbigamkmkmfdfaaDoorK2
namespace Go.Proofs.YtbigamkmkmfdfaaDoor
open Go.ChangeShapes Go.WideShapes Go.ChangeAt Go.RowKit
set_option linter.unusedVariables false
theorem dgt_chr : ∀ d, d < 64 → dgt (chr d) = (d : Int) := by decide +kernel
theorem chr_byte : ∀ d, d < 64 → 0 ≤ chr d ∧ chr d < 256 := by decide +kernel
theorem encF_len : ∀ f V, (encF f V).length ≤ f
  | 0, V => by simp [encF]
  | f + 1, V => by
    have ih := encF_len f (V / 32)
    unfold encF
    split
    · simp
    · simp; omega
theorem encF_pos (f V : Nat) : 1 ≤ (encF (f + 1) V).length := by
  unfold encF; split <;> simp
theorem encF_bytes : ∀ f V, ∀ x ∈ encF f V, 0 ≤ x ∧ x < 256
  | 0, V => by simp [encF]
  | f + 1, V => by
    have ih := encF_bytes f (V / 32)
    unfold encF
    split
    · intro x hx
      simp at hx
      subst hx
      exact chr_byte V (by omega)
    · intro x hx
      rcases List.mem_cons.1 hx with rfl | hx
      · exact chr_byte _ (by omega)
      · exact ih x hx
theorem encF_scan (xs : List Int) : ∀ (f V k : Nat), V < 32 ^ (f + 1) → (∀ i, i < (encF (f + 1) V).length → k + i < xs.length ∧ xs.getD (k + i) 0 = (encF (f + 1) V).getD i 0) →
    Scan xs k (k + (encF (f + 1) V).length) ∧ val xs k (encF (f + 1) V).length = V := by
  intro f
  induction f with
  | zero =>
    intro V k hV h
    have h32 : V < 32 := by simpa using hV
    have e : encF 1 V = [chr V] := by unfold encF; rw [if_pos h32]
    rw [e] at h ⊢
    obtain ⟨h1, h2⟩ := h 0 (by simp)
    simp at h1 h2
    have hd := dgt_chr V (by omega)
    refine ⟨Scan.last k h1 (by simp [h2, hd]) (by simp [h2, hd]; omega), ?_⟩
    simp [val, h2, hd]
    omega
  | succ f ih =>
    intro V k hV h
    by_cases h32 : V < 32
    · have e : encF (f + 1 + 1) V = [chr V] := by unfold encF; rw [if_pos h32]
      rw [e] at h ⊢
      obtain ⟨h1, h2⟩ := h 0 (by simp)
      simp at h1 h2
      have hd := dgt_chr V (by omega)
      refine ⟨Scan.last k h1 (by simp [h2, hd]) (by simp [h2, hd]; omega), ?_⟩
      simp [val, h2, hd]
      omega
    · have e : encF (f + 1 + 1) V = chr (V % 32 + 32) :: encF (f + 1) (V / 32) := by rw [encF, if_neg h32]
      rw [e] at h ⊢
      obtain ⟨h1, h2⟩ := h 0 (by simp)
      simp only [Nat.add_zero, List.getD_cons_zero] at h1 h2
      have hd := dgt_chr (V % 32 + 32) (by omega)
      have hV2 : V / 32 < 32 ^ (f + 1) := by rw [Nat.pow_succ] at hV; omega
      obtain ⟨s, hv⟩ := ih (V / 32) (k + 1) hV2 (fun i hi => by
        have := h (i + 1) (by simp; omega)
        rw [show k + (i + 1) = k + 1 + i by omega] at this
        simpa using this)
      refine ⟨?_, ?_⟩
      · refine Scan.more k _ h1 (by rw [h2, hd]; omega) ?_
        rw [List.length_cons, show k + ((encF (f + 1) (V / 32)).length + 1) = k + 1 + (encF (f + 1) (V / 32)).length by omega]
        exact s
      · rw [List.length_cons, val, hv, h2, hd]
        simp
        omega
theorem sgn_zig (a : Int) : sgn (zig a) = a := by
  unfold zig
  split
  · rw [sgn_odd _ (by omega)]; omega
  · rw [sgn_even _ (by omega)]; omega
theorem zig_lt (a : Int) (h0 : -1073741824 ≤ a) (h1 : a ≤ 1073741824) : zig a < 4294967296 := by unfold zig; split <;> omega
/-- a number's digits between two rows of bytes are read back -/
theorem read_back (x0 x2 : List Int) (a : Int) (h0 : -1073741824 ≤ a) (h1 : a ≤ 1073741824) :
    Scan (x0 ++ enc (zig a) ++ x2) x0.length (x0.length + (enc (zig a)).length) ∧ sgn (val (x0 ++ enc (zig a) ++ x2) x0.length (enc (zig a)).length) = a := by
  have hz := zig_lt a h0 h1
  obtain ⟨s, v⟩ := encF_scan (x0 ++ enc (zig a) ++ x2) 6 (zig a) x0.length (by omega) (fun i hi => by
    have hi' : i < (encF 7 (zig a)).length := hi
    refine ⟨by rw [List.append_assoc]; simp [enc]; omega, ?_⟩
    rw [List.append_assoc]
    simp [List.getD, List.getElem?_append, enc, hi', show ¬ x0.length + i < x0.length by omega])
  refine ⟨s, ?_⟩
  have e : val (x0 ++ enc (zig a) ++ x2) x0.length (enc (zig a)).length = zig a := v
  rw [e, sgn_zig]
set_option maxRecDepth 100000 in
set_option maxHeartbeats 4000000 in
theorem FnDecodeVLQInvertsEncodeVLQ_walk (a0 : Option Addr) (len0 cap0 : Nat) (z0 : List Int) (a1 : Int) (a2 : Option Addr) (len2 cap2 : Nat) (z2 : List Int) (w : World) (w0 : IsRow .u8 w a0 len0 cap0 z0) (w1 : (Lit.int .i64 a1).wf = true) (w2 : IsRow .u8 w a2 len2 cap2 z2) (hT : Lib.TabSlice 0 .u8 b64 w) :
    Calls Tryd.prog 4 #[.slice a0 len0 cap0, .int .i64 a1, .slice a2 len2 cap2] w fun e w' => e = .returned (.bool true) ∧ Below w.heap.size w w' := by
  obtain ⟨i0, hin, hz0, hz1, hz2⟩ := info_parts info5
  have hx0 : len0 ≤ maxLen := by rcases w0 with ⟨_, rfl, _⟩ | ⟨x, _, h, h', _⟩ <;> omega
  have hx2 : len2 ≤ maxLen := by rcases w2 with ⟨_, rfl, _⟩ | ⟨x, _, h, h', _⟩ <;> omega
  unfold maxLen at hx0 hx2
  obtain ⟨b0, l0⟩ := w0.bytes
  obtain ⟨b2, l2⟩ := w2.bytes
  have hab0 := w0.allB; have hab2 := w2.allB
  obtain ⟨R, o, cc, hTab⟩ := tab_in hT
  generalize z0.take len0 = x0 at *
  generalize z2.take len2 = x2 at *
  have B0 := Lib.hid b0; have B2 := Lib.hid b2; have L0 := Lib.hid l0; have L2 := Lib.hid l2
  have HAB0 := Lib.hid hab0; have HAB2 := Lib.hid hab2; have HTab := Lib.hid (TabB.of hTab)
  clear b0 b2 l0 l2 w0 w2 hT hab0 hab2 hTab w1
  by_cases s0 : 1048576 < len0
  · go_enter Tryd.func4, Tryd.ntmps4
    go_wp2_with (first | (go_at_call 13; go_in)); go_ret; exact ⟨rfl, Below.refl _ _⟩
  by_cases s1 : 1048576 < len2
  · go_enter Tryd.func4, Tryd.ntmps4
    go_wp2_with (first | (go_at_call 13; go_in)); go_ret; exact ⟨rfl, Below.refl _ _⟩
  by_cases s2 : 1048576 < len0 + len2
  · go_enter Tryd.func4, Tryd.ntmps4
    go_wp2_with (first | (go_at_call 13; go_in)); go_ret; exact ⟨rfl, Below.refl _ _⟩
  by_cases s3 : 524288 < len0
  · go_enter Tryd.func4, Tryd.ntmps4
    go_wp2_with (first | (go_at_call 13; go_in)); go_ret; exact ⟨rfl, Below.refl _ _⟩
  by_cases s4 : 524288 < len2
  · go_enter Tryd.func4, Tryd.ntmps4
    go_wp2_with (first | (go_at_call 13; go_in)); go_ret; exact ⟨rfl, Below.refl _ _⟩
  by_cases s5 : 1073741823 < a1
  · go_enter Tryd.func4, Tryd.ntmps4
    go_wp2_with (first | (go_at_call 13; go_in)); go_ret; exact ⟨rfl, Below.refl _ _⟩
  by_cases s6 : a1 < -1073741823
  · go_enter Tryd.func4, Tryd.ntmps4
    go_wp2_with (first | (go_at_call 13; go_in)); go_ret; exact ⟨rfl, Below.refl _ _⟩
  have HRB := Lib.hid (read_back x0 x2 a1 (by omega) (by omega))
  obtain ⟨E, hE⟩ : ∃ E, enc (zig a1) = E := ⟨_, rfl⟩
  have hEl : E.length ≤ 7 := by rw [← hE]; exact encF_len 7 _
  have hEp : 1 ≤ E.length := by rw [← hE]; exact encF_pos 6 _
  have hEb : ∀ x ∈ E, 0 ≤ x ∧ x < 256 := by rw [← hE]; exact encF_bytes 7 _
  rw [hE] at HRB
  have HEE := Lib.hid hE; have HEB := Lib.hid hEb
  clear hE hEb
  go_enter Tryd.func4, Tryd.ntmps4
  go_wp2_with (first | (go_at_call 13; go_in))
  refine (copy14 _ _ _ _ x0 B0.out (by omega)).mono ?_
  rintro e v1 ⟨p0, rfl, o0, be1⟩
  have O0 := Lib.hid o0; have E1 := Lib.hid be1; clear o0 be1
  go_wp2_with fail
  refine (copy14 _ _ _ _ x2 (B2.out.keep E1.out) (by omega)).mono ?_
  rintro e v2 ⟨p2, rfl, o2, be2⟩
  have O2 := Lib.hid (o2.mono E1.out.size); have O0' := Lib.hid (O0.out.keep be2); have E2 := Lib.hid (E1.out.trans (be2.mono E1.out.size)); clear o2 be2 O0 E1
  have H33 := Lib.hid (enc33 v2 v2.heap.size (.slice none 0 0) [] a1 R o cc (World.ownsRow_nil _ _ _ _) (Nat.le_refl _) (TabB.of (HTab.out.below E2.out).tab) (by simp) (by omega) (by omega))
  rw [List.nil_append, HEE.out] at H33
  go_wp2_with (first | (go_at_call 15; go_in))
  refine (H33.out).mono ?_
  rintro e v3 ⟨ve, rfl, oe, be3⟩
  obtain ⟨pe, ce, hve, hce, hie⟩ := oe.bytes
  subst hve
  have OE := Lib.hid oe.bytes
  have BY0 := Lib.hid ((O0'.out.keep be3).bytes); have BY2 := Lib.hid ((O2.out.keep be3).bytes); have E3 := Lib.hid (E2.out.trans (be3.mono E2.out.size))
  have HT3 := Lib.hid (HTab.out.below E3.out)
  clear oe be3 hie O0' O2 H33 E2
  obtain ⟨ne, hne⟩ : ∃ ne, E.length = ne := ⟨_, rfl⟩
  rw [hne] at hEl hEp hce OE ⊢
  have HNP := Lib.hid hEp
  have HNE := Lib.hid hne
  clear hne
  go_wp2_with (first
    | (at_make; refine wpList_make_own _ rfl _ _ 22 rfl v3.heap.size 5 i0 (.int .u8 0) 1 Tryd.underlying22 hin hz0 hz1 _ _ _ (len0 + ne + len2) rfl rfl (by omega) (by rw [hz2]; omega) (by unfold maxLen; omega) (Nat.le_refl _) ?_; intro w1 hown1 hg1
       have hd0 : Hid (Bytes w1 (.slice p0 len0 len0) x0) := Lib.hid (BY0.out.grown hg1 (fun _ _ _ _ _ _ _ => by simp))
       have hd1 : Hid (Bytes w1 (.slice pe ne ce) E) := Lib.hid (OE.out.grown hg1 (fun _ _ _ _ _ _ _ => by simp))
       have hd2 : Hid (Bytes w1 (.slice p2 len2 len2) x2) := Lib.hid (BY2.out.grown hg1 (fun _ _ _ _ _ _ _ => by simp))
       have HO1 := Lib.hid hown1; have HG1 := Lib.hid hg1; clear hown1 hg1)
    | (at_builtin; refine wpList_append_fits_any _ rfl (.tmp 45) (.tmp 46) 22 rfl v3.heap.size 5 i0 1 Tryd.underlying22 hin hz1 v3.heap.size 0 (len0 + ne + len2) _ rfl HO1.out p0 len0 len0 (cellsB x0) rfl (by rw [cellsB_len, L0.out]; omega) (fun h => by have := (bytes_src hd0.out).2.1 h; exact ⟨this, this⟩) (bytes_src hd0.out).2.2 (cellsB_one x0) (by omega) ?_; intro w2 hown2 hg2
       have hk1 : Hid (Bytes w2 (.slice pe ne ce) E) := Lib.hid (hd1.out.grown' OE.out hg2)
       have hk2 : Hid (Bytes w2 (.slice p2 len2 len2) x2) := Lib.hid (hd2.out.grown' BY2.out hg2)
       rw [Nat.zero_add] at hown2; have HO2 := Lib.hid hown2; have HG2 := Lib.hid hg2; clear hown2 hg2 HO1 hd0 hd1 hd2)
    | (at_builtin; refine wpList_append_fits_any _ rfl (.tmp 48) (.tmp 49) 22 rfl v3.heap.size 5 i0 1 Tryd.underlying22 hin hz1 v3.heap.size len0 (len0 + ne + len2) _ rfl HO2.out pe ne ce (cellsB E) rfl (by rw [cellsB_len, HNE.out]; omega) (fun h => by have := (bytes_src hk1.out).2.1 h; have := HNP.out; omega) (bytes_src hk1.out).2.2 (cellsB_one E) (by omega) ?_; intro w3 hown3 hg3
       have hm2 : Hid (Bytes w3 (.slice p2 len2 len2) x2) := Lib.hid (hk2.out.grown' BY2.out hg3)
       have HO3 := Lib.hid hown3; have HG3 := Lib.hid hg3; clear hown3 hg3 HO2 hk1 hk2)
    | (at_builtin; refine wpList_append_fits_any _ rfl (.tmp 51) (.tmp 52) 22 rfl v3.heap.size 5 i0 1 Tryd.underlying22 hin hz1 v3.heap.size (len0 + ne) (len0 + ne + len2) _ rfl HO3.out p2 len2 len2 (cellsB x2) rfl (by rw [cellsB_len, L2.out]; omega) (fun h => by have := (bytes_src hm2.out).2.1 h; exact ⟨this, this⟩) (bytes_src hm2.out).2.2 (cellsB_one x2) (by omega) ?_; intro w4 hown4 hg4
       have HO4 := Lib.hid hown4; have HG4 := Lib.hid hg4; clear hown4 hg4 HO3 hm2))
  have s1 := HG1.out.size; have s2 := HG2.out.size; have s3 := HG3.out.size
  have h3 := E3.out.size
  have E4 := Lib.hid (show Below w.heap.size w w4 from (((E3.out.trans (below_grown HG1.out w.heap.size h3 (by simp))).trans (below_grown HG2.out w.heap.size (by omega) (by intro k hk; injection hk; omega))).trans (below_grown HG3.out w.heap.size (by omega) (by intro k hk; injection hk; omega))).trans (below_grown HG4.out w.heap.size (by omega) (by intro k hk; injection hk; omega)))
  have ee : cellsB (x0 ++ E ++ x2) = [] ++ cellsB x0 ++ cellsB E ++ cellsB x2 := by simp [cellsB]
  have BYo := Lib.hid (show Bytes w4 (.slice (some ⟨v3.heap.size, 0, none⟩) (len0 + ne + len2) (len0 + ne + len2)) (x0 ++ E ++ x2) from own_bytes (by rw [ee]; exact HO4.out))
  have hsc := HRB.out
  rw [L0.out, HNE.out] at hsc
  have HD := Lib.hid (dec16 w4 _ _ _ (x0 ++ E ++ x2) len0 (len0 + ne) BYo.out (by
    intro x hx
    rcases List.mem_append.1 hx with hx | hx
    · rcases List.mem_append.1 hx with hx | hx
      · exact HAB0.out.mem x hx
      · exact HEB.out x hx
    · exact HAB2.out.mem x hx) (by omega) R o cc (HTab.out.below E4.out).tab hsc.1 (by omega))
  rw [show len0 + ne - len0 = ne by omega, hsc.2] at HD
  clear s1 s2 s3 h3 ee hsc
  refine (HD.out).mono ?_
  rintro e v5 ⟨rfl, m, rfl⟩
  go_wp2_with fail
  go_ret
  exact ⟨ret_bool (by simp), E4.out.trans (below_drewN _ _ _)⟩
end Go.Proofs.YtbigamkmkmfdfaaDoor
