/-
  zzTokenize: Tokenize of a text without a log.
-/
import Derived.Test.YtocciemgdikmjaaDoorM3
namespace Go.Proofs.YtocciemgdikmjaaDoor
open Go.ChangeShapes Go.WideShapes Go.ChangeAt Go.RowKit
open Go.Lib (decodeN decode_at decodeGo)
set_option linter.unusedVariables false
set_option maxRecDepth 100000 in
set_option maxHeartbeats 2000000 in
theorem zt12 (s : ByteArray) (b : Bool) (w : World) (hT : Lib.Utf8Tabs 0 1 w) (hs : s.size ≤ 1048576) (hD : Dom s) (hU : NoUrl s) : Calls Tryd.prog 12 #[.string s, .bool b] w fun e w' => TokSaid w s (bomE s) e w' := by
  have hB3 : Below w.heap.size w (((w.alloc (.cells resZ 34)).alloc (.cells logL 59)).alloc (.cells (srcL s) 69)) := (((Below.refl w.heap.size w).alloc (Nat.le_refl _) _).alloc (by simp) _).alloc (by simp; omega) _
  have hC3 : (((w.alloc (.cells resZ 34)).alloc (.cells logL 59)).alloc (.cells (srcL s) 69)).heap[w.heap.size]? = some (.cells resZ 34) := by
    have s1 := alloc_size w (.cells resZ 34)
    have s2 := alloc_size (w.alloc (.cells resZ 34)) (.cells logL 59)
    rw [alloc_old _ _ _ (by omega), alloc_old _ _ _ (by omega)]; exact heap_alloc_new w _
  have hz3 : w.heap.size < (((w.alloc (.cells resZ 34)).alloc (.cells logL 59)).alloc (.cells (srcL s) 69)).heap.size := by simp; omega
  have HC3 := Lib.hid hC3; have HB3 := Lib.hid hB3; have HZ3 := Lib.hid hz3
  have HTZ := Lib.hid (tz50 s b _ (tabs_below hT hB3) hs hD hU)
  clear hT hD hU hC3 hB3 hz3
  go_enter Tryd.func12, Tryd.ntmps12
  go_wp2_with fail
  refine (HTZ.out).mono ?_
  rintro e w1 ⟨v, J, rfl, hlt, hJ, hrow, hbe⟩
  have HV := Lib.hid (And.intro hlt (And.intro hJ (And.intro hrow hbe)))
  have hR : w1.heap[w.heap.size]? = some (.cells resZ 34) := (hbe.block _ HZ3.out).trans HC3.out
  have hrow0 := hrow
  clear hlt hJ hrow hbe
  obtain ⟨a, c, rfl⟩ := row_slice hrow0
  obtain ⟨r0, r1, r2, r3, r4, r5, r6, rf⟩ := resZ_cells hR
  have HR := Lib.hid hR
  clear hR hrow0
  unfold resL
  dsimp only
  go_wp2_with fail
  refine bodyPost_ret (results_cell_row rfl _ _ w.heap.size 34 (resL (.slice a J c) (cnt s s.size)) (0, 0) _ rfl ?_ Tryd.underlying34 rfl (by kernel_rfl)) rfl ⟨_, J, rfl, HV.out.1, HV.out.2.1, ?_, ?_⟩
  · exact set7 HR.out _ _ _ _ _ _ _
  · have hz := HZ3.out
    exact own_mono (own_set (own_set (own_set (own_set (own_set (own_set (own_set HV.out.2.2.1 _ hz _ _) _ hz _ _) _ hz _ _) _ hz _ _) _ hz _ _) _ hz _ _) _ hz _ _) (Nat.le_of_lt hz)
  · have hb := HB3.out.trans (HV.out.2.2.2.mono HB3.out.size)
    exact below_set (below_set (below_set (below_set (below_set (below_set (below_set hb (Nat.le_refl _) _ _) (Nat.le_refl _) _ _) (Nat.le_refl _) _ _) (Nat.le_refl _) _ _) (Nat.le_refl _) _ _) (Nat.le_refl _) _ _) (Nat.le_refl _) _ _
end Go.Proofs.YtocciemgdikmjaaDoor
