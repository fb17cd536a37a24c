/-
  tryToDecodeEscapeSequences on a chain of steps.
-/
import Derived.Test.YtemneajjdbbgoaaFmtV5
import Derived.Test.YtemneajjdbbgoaaFmtV6
import Derived.Test.YtemneajjdbbgoaaFmtV7
namespace Go.Proofs.YtemneajjdbbgoaaFmt
open Go.ChangeShapes Go.WideShapes Go.ChangeAt Go.RowKit
open Go.Lib (decodeN decode_at decodeGo)
set_option linter.unusedVariables false
set_option maxRecDepth 1000000 in
set_option maxHeartbeats 32000000 in
theorem dc18 (g : Nat) (st : Int) (s : ByteArray) (re : Bool) (w : World) (hT : Lib.Utf8Tabs 0 1 w) (hs : s.size ≤ 1048576) (hst : 0 ≤ st ∧ st ≤ 1048576) (hJ : w.cell? ⟨g, 68, none⟩ = some (.int .u8 2)) (xs : List Int) (hch : Ch32 s 0 xs) :
    Calls Tryf.prog 18 #[.pointer (some ⟨g, 0, none⟩), .int .i64 st, .string s, .bool re] w fun e w' => (∃ v, e = .returned (.tuple #[v, .bool true, .int .i64 0]) ∧ OwnU w' w.heap.size v xs ∧ NN v) ∧ Below w.heap.size w w' := by
  obtain ⟨i0, hin, hz0, hz1, hz2⟩ := info_parts infoU
  have HT := Lib.hid hT; have HCH := Lib.hid hch
  have HJ := Lib.hid (fun (wx : World) (hb : Below w.heap.size w wx) => show wx.cell? ⟨g, 68, none⟩ = some (.int .u8 2) from by rw [hb.cell (block_lt_of_cell hJ)]; exact hJ)
  have hst0 := hst.1
  have hst1 := hst.2
  clear hT hch hJ hst
  go_enter Tryf.func18, Tryf.ntmps18
  go_wp2_with fail
  refine wp_loop (WC18 g st s re w xs) (mu18 s) ?start ?round
  case start =>
    refine WC18.intro (.slice (some ⟨w.heap.size, 0, none⟩) 0 0) 0 ⟨[], xs, by omega, ?_, (Below.refl _ _).alloc (Nat.le_refl _) _, by simp, HCH.out, rfl, ⟨_, _, _, rfl⟩⟩ (by kernel_rfl)
    exact ⟨by simp [cellsU], Or.inr ⟨w.heap.size, 0, #[], rfl, Nat.le_refl _, heap_alloc_new _ _, by simp, by unfold maxLen; omega, by simp, by simp [cellsU]⟩⟩
  case round =>
    rintro a wr ⟨sl, i, us, hrel, rfl⟩
    obtain ⟨pre, rest, hi, hO, hB, hpl, hC, hU, hN⟩ := hrel
    have HS := Lib.hid (show St w sl pre wr from ⟨hO, hB⟩); have HTr := Lib.hid (tabs_below HT.out hB); have HN := Lib.hid hN
    clear hO hB hN
    rcases hC.inv with ⟨rfl, rfl⟩ | ⟨hlt, xs1, nx, rest', hok, hC', rfl⟩
    · have HE := Lib.hid (show pre = xs by simpa using hU)
      clear hU hC
      unfold fr18
      go_wp2_with fail
      go_ret3
      refine ⟨⟨sl, rfl, ?_, HN.out⟩, HS.out.2⟩
      rw [← HE.out]; exact HS.out.1
    have HC' := Lib.hid hC'
    clear hC hC'
    obtain ⟨C0, K0, hd, k1, k4, kS, hij, hjs, hway⟩ := hok.split hlt
    clear hok
    have HD := Lib.hid (show (decodeGo (s.extract i s.size)).1 = C0 ∧ (decodeGo (s.extract i s.size)).2 = K0 by rw [hd]; exact ⟨rfl, rfl⟩)
    have HJS := Lib.hid (And.intro hij hjs)
    clear hd hij hjs
    obtain ⟨I, hI⟩ : ∃ I, i + K0 = I := ⟨_, rfl⟩
    have hIs : I ≤ s.size := by omega
    rcases hway with ⟨C, hC65, rfl, hF⟩ | ⟨hC0, hK0, h2, hb92, hF⟩
    · have HC65 := Lib.hid hC65; have HU := Lib.hid hU
      rcases hF with ⟨hCe, hnx, c92, c13⟩ | ⟨hC0, hK0, h2, hb92, hF2⟩
      · exact way_A g st s re w hs hst0 hst1 HT HJ xs i0 hin hz0 hz1 hz2 wr sl i us pre rest' hi hpl HS HTr HN hlt nx HC' HJS I hIs C HC65 HU C0 K0 hI HD k4 hCe hnx c92 c13 _
      · subst hC0
        subst hK0
        have hI' : (i : Int) + 1 = (I : Int) := by omega
        rcases hF2 with ⟨p2, p0, p3, hCe, hnx⟩ | ⟨p2, p0, p3, hCe, hnx⟩ | ⟨n, q1, q7, p0, p2, p4, p3, p5, pv, hCe, hnx⟩ | ⟨K, hdC, hId, hnx⟩
        · exact way_x g st s re w hs hst0 hst1 HT HJ xs i0 hin hz0 hz1 hz2 wr sl i us pre rest' hi hpl HS HTr HN hlt nx HC' HJS I hIs C HC65 HU h2 hI hI' HD p2 p0 p3 hCe hnx _
        · exact way_u g st s re w hs hst0 hst1 HT HJ xs i0 hin hz0 hz1 hz2 wr sl i us pre rest' hi hpl HS HTr HN hlt nx HC' HJS I hIs C HC65 HU h2 hI hI' HD p2 p0 p3 hCe hnx _
        · exact way_b g st s re w hs hst0 hst1 HT HJ xs i0 hin hz0 hz1 hz2 wr sl i us pre rest' hi hpl HS HTr HN hlt nx HC' HJS I hIs C HC65 HU h2 hI hI' HD n q1 q7 p0 p2 p4 p3 p5 pv hCe hnx _
        · exact way_id g st s re w hs hst0 hst1 HT HJ xs i0 hin hz0 hz1 hz2 wr sl i us pre rest' hi hpl HS HTr HN hlt nx HC' HJS I hIs C HC65 HU h2 hI hI' HD K hdC hId hnx _
    · subst hC0
      subst hK0
      have hI' : (i : Int) + 1 = (I : Int) := by omega
      rcases hF with ⟨r, hE, rfl, hnx⟩ | ⟨p2, p0, p3, rfl, hnx⟩ | ⟨p2, p3, rfl, hnx⟩ | ⟨C, K, hdC, hC, rfl, hnx⟩
      · rw [hI] at hE
        have HU := Lib.hid hU
        rcases hE with ⟨e1, rfl⟩ | ⟨e1, rfl⟩ | ⟨e1, rfl⟩ | ⟨e1, rfl⟩ | ⟨e1, rfl⟩ | ⟨e1, rfl⟩
        · exact way_e98 g st s re w hs hst0 hst1 HT HJ xs i0 hin hz0 hz1 hz2 wr sl i us pre rest' hi hpl HS HTr HN hlt nx HC' HJS I hIs h2 hI hI' HD HU e1 hnx _
        · exact way_e102 g st s re w hs hst0 hst1 HT HJ xs i0 hin hz0 hz1 hz2 wr sl i us pre rest' hi hpl HS HTr HN hlt nx HC' HJS I hIs h2 hI hI' HD HU e1 hnx _
        · exact way_e110 g st s re w hs hst0 hst1 HT HJ xs i0 hin hz0 hz1 hz2 wr sl i us pre rest' hi hpl HS HTr HN hlt nx HC' HJS I hIs h2 hI hI' HD HU e1 hnx _
        · exact way_e114 g st s re w hs hst0 hst1 HT HJ xs i0 hin hz0 hz1 hz2 wr sl i us pre rest' hi hpl HS HTr HN hlt nx HC' HJS I hIs h2 hI hI' HD HU e1 hnx _
        · exact way_e116 g st s re w hs hst0 hst1 HT HJ xs i0 hin hz0 hz1 hz2 wr sl i us pre rest' hi hpl HS HTr HN hlt nx HC' HJS I hIs h2 hI hI' HD HU e1 hnx _
        · exact way_e118 g st s re w hs hst0 hst1 HT HJ xs i0 hin hz0 hz1 hz2 wr sl i us pre rest' hi hpl HS HTr HN hlt nx HC' HJS I hIs h2 hI hI' HD HU e1 hnx _
      · exact way_crlf g st s re w hs hst0 hst1 HT HJ xs i0 hin hz0 hz1 hz2 wr sl i us pre rest' hi hpl HS HTr HN hlt nx HC' HJS I hIs h2 hI hI' HD (Lib.hid hU) p2 p0 p3 hnx _
      · exact way_cr g st s re w hs hst0 hst1 HT HJ xs i0 hin hz0 hz1 hz2 wr sl i us pre rest' hi hpl HS HTr HN hlt nx HC' HJS I hIs h2 hI hI' HD (Lib.hid hU) p2 p3 hnx _
      · exact way_sep g st s re w hs hst0 hst1 HT HJ xs i0 hin hz0 hz1 hz2 wr sl i us pre rest' hi hpl HS HTr HN hlt nx HC' HJS I hIs h2 hI hI' HD (Lib.hid hU) C K hdC hC hnx _
end Go.Proofs.YtemneajjdbbgoaaFmt
