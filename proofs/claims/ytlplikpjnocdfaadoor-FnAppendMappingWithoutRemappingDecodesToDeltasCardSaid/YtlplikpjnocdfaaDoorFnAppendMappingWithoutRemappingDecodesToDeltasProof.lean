/-
  FnAppendMappingWithoutRemappingDecodesToDeltas holds of every input, over the package's own table as the program's text lays it (the card is tied): the call returns true and leaves its arguments and the table as they were. (The frame is after the kit's proof-skeleton.)
-/
import Derived.Test.YtlplikpjnocdfaaDoorRows
import Derived.Test.YtlplikpjnocdfaaDoorHead
import Derived.Test.YtlplikpjnocdfaaDoorB8
import Derived.WalkKit
import Derived.ProofKit
import Derived.OpenShut
import Derived.Test.YtlplikpjnocdfaaDoorTabs
import Derived.Test.YtlplikpjnocdfaaDoorTie
import Derived.Test.YtlplikpjnocdfaaDoorCards
import Derived.LaidMore
import Derived.Lay
import Derived.SevenTiedAt
import Derived.Stop.Joined
import Derived.OpenVars
import Derived.ShutString
import Derived.ChangeOld
import Derived.Below
import Derived.Deep.Grids
namespace Go.Proofs.YtlplikpjnocdfaaDoor.fnAppendMappingWithoutRemappingDecodesToDeltas
open Go.ChangeShapes Go.WideShapes Go.ChangeAt Go.RowKit
open Go.ChangeMaps (open_string shut_string)
set_option linter.unusedVariables false

theorem own : ownKnob Tryd.prog.godebug = none := by kernel_rfl
theorem laidOut : laidOutB Tryd.prog = true := by kernel_rfl

set_option maxRecDepth 100000 in
theorem lifted (os : Os) (started : os.Started) (H : Type) (enc : TypeId × Value → H) :
    ReturnsInHanded {} Tryd.checked os 3 .any (fun w args => (Rows.fnAppendMappingWithoutRemappingDecodesToDeltasSpec.pre enc Tryd.prog Tryd.f3 Rows.fnAppendMappingWithoutRemappingDecodesToDeltasRow.domain false w args ∧ laidMetH Tryd.prog Rows.fnAppendMappingWithoutRemappingDecodesToDeltasRow.laid w) ∧ sizedMet enc Tryd.prog Tryd.f3 (OpenSpec.ofChange Rows.fnAppendMappingWithoutRemappingDecodesToDeltasSpec) false w args)
      (Rows.fnAppendMappingWithoutRemappingDecodesToDeltasSpec.post enc Tryd.prog Tryd.f3 false true false false) := by
  refine returnsInHanded_of_change_and (C := Tryd.checked) (X := fun w _ => laidMetH Tryd.prog Rows.fnAppendMappingWithoutRemappingDecodesToDeltasRow.laid w) (fun _ _ _ hh h => h.of_heap hh) own started (by kernel_rfl) Tryd.func3
    (ChangeSpec.witness_shaped (enc := enc) (C := Tryd.checked) (os := os) (X := fun w _ => laidMetH Tryd.prog Rows.fnAppendMappingWithoutRemappingDecodesToDeltasRow.laid w) false (World.laidAll Tryd.prog os Rows.fnAppendMappingWithoutRemappingDecodesToDeltasRow.laid) #[.slice none 0 0, .slice none 0 0, .slice none 0 0, .slice none 0 0, .slice none 0 0, .slice none 0 0] 8 (World.laidAll_os _ _ _)
      (World.shaped_of_ZipB (by kernel_rfl) (by kernel_rfl)) (by kernel_rfl) (by kernel_rfl) (by kernel_rfl)
      (by rw [MakeChecks.laidMetH_plain _ _ _ (by kernel_rfl)]; exact laidMet_laidAll _ (by kernel_rfl) (by kernel_rfl))) ?_
  intro W base args ds gs before hval0 hW hcnd _ hL _
  have hval : ∀ (j : Nat) t v, Tryd.f3.params[j]? = some t → args[j]? = some v → Value.okWide Tryd.prog W .any base t v := hval0
  have hW' := hW
  obtain ⟨p, q, hA0, hV, rfl, hfz, hnd⟩ := hW
  have hA : DataW.TrodAll enc Tryd.prog W 0 (fun _ => true) true Tryd.f3.params.toList args.toList ds p := hA0
  rw [Tryd.params3] at hA hval
  obtain ⟨v0, vs0, d0, ds0, p0, q0, hargs, rfl, rfl, h0, r0⟩ := trodAll_cons hA
  obtain ⟨v1, vs1, d1, ds1, p1, q1, rfl, rfl, rfl, h1, r1⟩ := trodAll_cons r0
  obtain ⟨v2, vs2, d2, ds2, p2, q2, rfl, rfl, rfl, h2, r2⟩ := trodAll_cons r1
  obtain ⟨v3, vs3, d3, ds3, p3, q3, rfl, rfl, rfl, h3, r3⟩ := trodAll_cons r2
  obtain ⟨v4, vs4, d4, ds4, p4, q4, rfl, rfl, rfl, h4, r4⟩ := trodAll_cons r3
  obtain ⟨v5, vs5, d5, ds5, p5, q5, rfl, rfl, rfl, h5, r5⟩ := trodAll_cons r4
  obtain ⟨rfl, rfl, rfl⟩ := trodAll_nil r5
  obtain rfl : args = #[v0, v1, v2, v3, v4, v5] := by cases args; simp_all
  have hV1 : DataW.TrodVars enc Tryd.prog W (fun _ => true) ["github.com/evanw/esbuild/internal/sourcemap.base64"] gs q := hV
  obtain ⟨gv, tv, cv, fv, dv, pv, hgs, _⟩ := trodVars_one hV1
  subst hgs
  obtain ⟨a0, len0, cap0, rfl⟩ := okWide_slice Tryd.underlying22 (hval 0 22 v0 rfl rfl)
  have k0 := h0
  have lt0 : ∀ x ∈ p0, x.block < W.heap.size := by obtain ⟨m, hm⟩ := k0; exact DataW.trod_lt m _ _ _ hm
  obtain ⟨z0, w0⟩ : ∃ zs, IsRow .i32 W a0 len0 cap0 zs := by
    obtain ⟨fuel, hf⟩ := h0
    rcases open_ints Tryd.underlying22 Tryd.underlying21 (by kernel_rfl) hf with ⟨hcs, _⟩ | ⟨x, l, c, zs, hcs, _, hl, hm, hz, _, hcell, hwz⟩
    · simp [Value.cells] at hcs
      obtain ⟨rfl, rfl, rfl⟩ := hcs
      exact ⟨[], .inl ⟨rfl, rfl, rfl, rfl⟩⟩
    · simp [Value.cells] at hcs
      obtain ⟨rfl, rfl, rfl⟩ := hcs
      exact ⟨zs, .inr ⟨_, rfl, hl, hm, by simpa using hz, hcell, hwz⟩⟩
  obtain ⟨a1, len1, cap1, rfl⟩ := okWide_slice Tryd.underlying22 (hval 1 22 v1 rfl rfl)
  have k1 := h1
  have lt1 : ∀ x ∈ p1, x.block < W.heap.size := by obtain ⟨m, hm⟩ := k1; exact DataW.trod_lt m _ _ _ hm
  obtain ⟨z1, w1⟩ : ∃ zs, IsRow .i32 W a1 len1 cap1 zs := by
    obtain ⟨fuel, hf⟩ := h1
    rcases open_ints Tryd.underlying22 Tryd.underlying21 (by kernel_rfl) hf with ⟨hcs, _⟩ | ⟨x, l, c, zs, hcs, _, hl, hm, hz, _, hcell, hwz⟩
    · simp [Value.cells] at hcs
      obtain ⟨rfl, rfl, rfl⟩ := hcs
      exact ⟨[], .inl ⟨rfl, rfl, rfl, rfl⟩⟩
    · simp [Value.cells] at hcs
      obtain ⟨rfl, rfl, rfl⟩ := hcs
      exact ⟨zs, .inr ⟨_, rfl, hl, hm, by simpa using hz, hcell, hwz⟩⟩
  obtain ⟨a2, len2, cap2, rfl⟩ := okWide_slice Tryd.underlying22 (hval 2 22 v2 rfl rfl)
  have k2 := h2
  have lt2 : ∀ x ∈ p2, x.block < W.heap.size := by obtain ⟨m, hm⟩ := k2; exact DataW.trod_lt m _ _ _ hm
  obtain ⟨z2, w2⟩ : ∃ zs, IsRow .i32 W a2 len2 cap2 zs := by
    obtain ⟨fuel, hf⟩ := h2
    rcases open_ints Tryd.underlying22 Tryd.underlying21 (by kernel_rfl) hf with ⟨hcs, _⟩ | ⟨x, l, c, zs, hcs, _, hl, hm, hz, _, hcell, hwz⟩
    · simp [Value.cells] at hcs
      obtain ⟨rfl, rfl, rfl⟩ := hcs
      exact ⟨[], .inl ⟨rfl, rfl, rfl, rfl⟩⟩
    · simp [Value.cells] at hcs
      obtain ⟨rfl, rfl, rfl⟩ := hcs
      exact ⟨zs, .inr ⟨_, rfl, hl, hm, by simpa using hz, hcell, hwz⟩⟩
  obtain ⟨a3, len3, cap3, rfl⟩ := okWide_slice Tryd.underlying22 (hval 3 22 v3 rfl rfl)
  have k3 := h3
  have lt3 : ∀ x ∈ p3, x.block < W.heap.size := by obtain ⟨m, hm⟩ := k3; exact DataW.trod_lt m _ _ _ hm
  obtain ⟨z3, w3⟩ : ∃ zs, IsRow .i32 W a3 len3 cap3 zs := by
    obtain ⟨fuel, hf⟩ := h3
    rcases open_ints Tryd.underlying22 Tryd.underlying21 (by kernel_rfl) hf with ⟨hcs, _⟩ | ⟨x, l, c, zs, hcs, _, hl, hm, hz, _, hcell, hwz⟩
    · simp [Value.cells] at hcs
      obtain ⟨rfl, rfl, rfl⟩ := hcs
      exact ⟨[], .inl ⟨rfl, rfl, rfl, rfl⟩⟩
    · simp [Value.cells] at hcs
      obtain ⟨rfl, rfl, rfl⟩ := hcs
      exact ⟨zs, .inr ⟨_, rfl, hl, hm, by simpa using hz, hcell, hwz⟩⟩
  obtain ⟨a4, len4, cap4, rfl⟩ := okWide_slice Tryd.underlying22 (hval 4 22 v4 rfl rfl)
  have k4 := h4
  have lt4 : ∀ x ∈ p4, x.block < W.heap.size := by obtain ⟨m, hm⟩ := k4; exact DataW.trod_lt m _ _ _ hm
  obtain ⟨z4, w4⟩ : ∃ zs, IsRow .i32 W a4 len4 cap4 zs := by
    obtain ⟨fuel, hf⟩ := h4
    rcases open_ints Tryd.underlying22 Tryd.underlying21 (by kernel_rfl) hf with ⟨hcs, _⟩ | ⟨x, l, c, zs, hcs, _, hl, hm, hz, _, hcell, hwz⟩
    · simp [Value.cells] at hcs
      obtain ⟨rfl, rfl, rfl⟩ := hcs
      exact ⟨[], .inl ⟨rfl, rfl, rfl, rfl⟩⟩
    · simp [Value.cells] at hcs
      obtain ⟨rfl, rfl, rfl⟩ := hcs
      exact ⟨zs, .inr ⟨_, rfl, hl, hm, by simpa using hz, hcell, hwz⟩⟩
  obtain ⟨a5, len5, cap5, rfl⟩ := okWide_slice Tryd.underlying23 (hval 5 23 v5 rfl rfl)
  have k5 := h5
  have lt5 : ∀ x ∈ p5, x.block < W.heap.size := by obtain ⟨m, hm⟩ := k5; exact DataW.trod_lt m _ _ _ hm
  obtain ⟨z5, w5⟩ : ∃ Z, IsBls W a5 len5 cap5 Z := by
    obtain ⟨fuel, hf⟩ := h5
    rcases Deep.open_bools Tryd.underlying23 Tryd.underlying4 (by kernel_rfl) hf with ⟨hcs, _⟩ | ⟨x, l, c, Z, hcs, _, hl, hm, _, hcell⟩
    · simp [Value.cells] at hcs
      obtain ⟨rfl, rfl, rfl⟩ := hcs
      exact ⟨fun _ => false, .inl ⟨rfl, rfl, rfl⟩⟩
    · simp [Value.cells] at hcs
      obtain ⟨rfl, rfl, rfl⟩ := hcs
      exact ⟨Z, .inr ⟨_, rfl, hl, hm, hcell⟩⟩
  clear hA0 hval0
  refine (FnAppendMappingWithoutRemappingDecodesToDeltas_walk a0 len0 cap0 z0 a1 len1 cap1 z1 a2 len2 cap2 z2 a3 len3 cap3 z3 a4 len4 cap4 z4 a5 len5 cap5 z5 W w0 w1 w2 w3 w4 w5 (tab_of hL)).mono fun e W' ⟨he, bel⟩ => ?_
  subst he
  exact ⟨_, rfl, _, _, _, [], _, _, hW', trodAll_mk1 (shut_bool Tryd.underlying4 _), (trodAll_cons_mk (Below.trod laidOut (by kernel_rfl) (of_decide_eq_true (by kernel_rfl)) k0 bel lt0) (trodAll_cons_mk (Below.trod laidOut (by kernel_rfl) (of_decide_eq_true (by kernel_rfl)) k1 bel lt1) (trodAll_cons_mk (Below.trod laidOut (by kernel_rfl) (of_decide_eq_true (by kernel_rfl)) k2 bel lt2) (trodAll_cons_mk (Below.trod laidOut (by kernel_rfl) (of_decide_eq_true (by kernel_rfl)) k3 bel lt3) (trodAll_cons_mk (Below.trod laidOut (by kernel_rfl) (of_decide_eq_true (by kernel_rfl)) k4 bel lt4) (trodAll_cons_mk (Below.trod laidOut (by kernel_rfl) (of_decide_eq_true (by kernel_rfl)) k5 bel lt5) trodAll_mk0)))))), Below.trodVars laidOut bel (by kernel_rfl) hV1, bel.frame _, fun h => by cases h⟩

theorem over : Rows.fnAppendMappingWithoutRemappingDecodesToDeltasRow.holds Tryd.pinned (OpenSpec.ofChange Rows.fnAppendMappingWithoutRemappingDecodesToDeltasSpec) :=
  OpenClaim.holds_of_wide 3 Tryd.f3 rfl rfl rfl rfl rfl rfl rfl ⟨rfl, rfl, rfl, rfl, rfl⟩ rfl rfl rfl rfl rfl (by kernel_rfl) Tryd.func3 (joined (by as_aux_lemma => kernel_rfl) rfl rfl)
    (of_decide_eq_true (by kernel_rfl)) (by unfold Func.isWrapper; first | (rw [if_pos (by decide +kernel)]; kernel_rfl) | (rw [if_neg (by decide +kernel)]; exact ⟨rfl, rfl⟩))
    (fun os started H enc _ => lifted os started H enc)

theorem plain (f : FuncId) (fn : Func) (hf : Tryd.pinned.checked.prog.funcNamed Rows.fnAppendMappingWithoutRemappingDecodesToDeltasRow.func = some f) (hfn : Tryd.pinned.checked.prog.funcs[f]? = some fn) :
    false = Tryd.pinned.checked.prog.looks [] ∧ ∀ (j : Nat) t, fn.params[j]? = some t → Tryd.pinned.checked.prog.wantsStandIn t = false := by
  obtain rfl : f = 3 := Option.some.inj ((show Tryd.prog.funcNamed Rows.fnAppendMappingWithoutRemappingDecodesToDeltasRow.func = some 3 by kernel_rfl).symm.trans hf) |>.symm
  obtain rfl : fn = Tryd.f3 := (Option.some.inj (Tryd.func3.symm.trans hfn)).symm
  refine ⟨by kernel_rfl, fun j t ht => ?_⟩
  rw [Tryd.params3] at ht
  have hm : t ∈ [22, 23] := by simpa [or_comm, or_assoc, or_left_comm] using Array.mem_of_getElem? ht
  have hall : ([22, 23].all fun u => !Tryd.prog.wantsStandIn u) = true := by kernel_rfl
  exact (show Tryd.prog.wantsStandIn t = false by simpa using List.all_eq_true.1 hall t hm)
/-- ████ THE CARD ████ -/
theorem proved : Rows.FnAppendMappingWithoutRemappingDecodesToDeltasCardSaid :=
  Claim7.holds_tied_plain_at .later [] _ _ _ _ over (fun _ h => by cases h) (by kernel_rfl) (fun _ h => by cases h) fnAppendMappingWithoutRemappingDecodesToDeltas_row_tie rfl ⟨rfl, rfl⟩ (by kernel_rfl) rfl plain (by kernel_rfl)
#print axioms proved
end Go.Proofs.YtlplikpjnocdfaaDoor.fnAppendMappingWithoutRemappingDecodesToDeltas
