/-
  FnUnionMaxIsLeastUpperBound holds of every input: the call returns true and leaves its arguments as they were. No condition. (The frame is written by the kit's proof-skeleton.)
-/
import Derived.Test.YtkhedaaaimnikaaRows
import Derived.Test.YtkhedaaaimnikaaHead
import Derived.Test.YtkhedaaaimnikaaU2
import Derived.WalkKit
import Derived.ProofKit
import Derived.OpenShut
import Derived.Below
import Derived.ShutString
namespace Go.Proofs.Ytkhedaaaimnikaa.fnUnionMaxIsLeastUpperBound
open Go.ChangeShapes Go.WideShapes Go.ChangeAt Go.RowKit
open Go.ChangeMaps (open_string shut_string)
set_option linter.unusedVariables false      -- a walk need not use every 'w<i>' (that an integer argument fits its kind)

theorem own : ownKnob Try.prog.godebug = none := by kernel_rfl

/-! ### STEP 1: THE WALK: the Go text returns true. 'Below w.heap.size w w'': the world has at most new blocks (Derived/RowKit3.lean). Part the cases AHEAD of 'go_enter' where a test parts the walk; take each callee by a contract of your own. -/
theorem walk (a0 : List Int) (a1 : List Int) (w0 : IsArr .u32 4 a0) (w1 : IsArr .u32 4 a1) (w : World) :
    Calls Try.prog 11 #[.agg (arrV .u32 a0), .agg (arrV .u32 a1)] w fun e w' => e = .returned (.bool true) ∧ Below w.heap.size w w' := by
  exact FnUnionMaxIsLeastUpperBound_walk a0 a1 w0 w1 w

/-! ### THE ROW's STEP: WRITTEN OUT: LEAVE IT -/
set_option maxRecDepth 100000 in
theorem lifted (os : Os) (started : os.Started) (H : Type) (enc : TypeId × Value → H) :
    ReturnsInHanded {} Try.checked os 11 .any (Rows.fnUnionMaxIsLeastUpperBoundSpec.pre6 enc Try.prog Try.f11 Rows.fnUnionMaxIsLeastUpperBoundRow.domain false) (Rows.fnUnionMaxIsLeastUpperBoundSpec.post enc Try.prog Try.f11 false true false false) := by
  refine returnsInHanded_of_change (C := Try.checked) own started (by kernel_rfl) Try.func11
    (ChangeSpec.witness6 (enc := enc) (C := Try.checked) false ⟨#[], #[.agg (arrV .u32 (List.replicate 4 0)), .agg (arrV .u32 (List.replicate 4 0))], []⟩ 8 (by kernel_rfl) (by kernel_rfl) (by kernel_rfl) (by kernel_rfl)) ?_
  intro W base args ds gs before hval0 hW hcnd _
  have hval : ∀ (j : Nat) t v, Try.f11.params[j]? = some t → args[j]? = some v → Value.okWide Try.prog W .any base t v := hval0
  have hW' := hW
  obtain ⟨p, q, hA0, hV, rfl, hfz, hnd⟩ := hW
  have hA : DataW.TrodAll enc Try.prog W 0 (fun _ => true) true Try.f11.params.toList args.toList ds p := hA0
  rw [Try.params11] at hA hval
  obtain ⟨v0, vs0, d0, ds0, p0, q0, hargs, rfl, rfl, h0, r0⟩ := trodAll_cons hA
  obtain ⟨v1, vs1, d1, ds1, p1, q1, rfl, rfl, rfl, h1, r1⟩ := trodAll_cons r0
  obtain ⟨rfl, rfl, rfl⟩ := trodAll_nil r1
  obtain rfl : args = #[v0, v1] := by cases args; simp_all
  obtain ⟨rfl, rfl⟩ := trodVars_none hV
  obtain ⟨a0, rfl, rfl, rfl, w0⟩ := open_arr Try.underlying32 Try.underlying31 (by kernel_rfl) (by kernel_rfl) (hval 0 32 v0 rfl rfl) h0
  obtain ⟨a1, rfl, rfl, rfl, w1⟩ := open_arr Try.underlying32 Try.underlying31 (by kernel_rfl) (by kernel_rfl) (hval 1 32 v1 rfl rfl) h1
  clear hA0 hval0
  simp only [List.append_nil] at hW'
  refine (walk a0 a1 w0 w1 W).mono fun e W' ⟨he, hg⟩ => ?_
  subst he
  exact ⟨_, rfl, _, _, _, [], [], [], hW', trodAll_mk1 (shut_bool Try.underlying4 _), (trodAll_cons_mk (shut_arr Try.underlying32 Try.underlying31 (by kernel_rfl) (by kernel_rfl) w0) (trodAll_cons_mk (shut_arr Try.underlying32 Try.underlying31 (by kernel_rfl) (by kernel_rfl) w1) trodAll_mk0)), rfl, hg.frame _, fun h => by cases h⟩

theorem over : Rows.fnUnionMaxIsLeastUpperBoundRow.holds Try.pinned (OpenSpec.ofChange Rows.fnUnionMaxIsLeastUpperBoundSpec) :=
  OpenClaim.holds_of_wide 11 Try.f11 rfl rfl rfl rfl rfl rfl rfl ⟨rfl, rfl, rfl, rfl, rfl⟩ rfl rfl rfl rfl rfl (by kernel_rfl) Try.func11 (joined (by as_aux_lemma => kernel_rfl) rfl rfl)
    (of_decide_eq_true (by kernel_rfl)) (by unfold Func.isWrapper; first | (rw [if_pos (by decide +kernel)]; kernel_rfl) | (rw [if_neg (by decide +kernel)]; exact ⟨rfl, rfl⟩))
    (fun os started H enc _ => lifted os started H enc)

/-- ████ THE STATEMENT ████ -/
theorem proved : Rows.FnUnionMaxIsLeastUpperBoundSaid :=
  over
#print axioms proved
end Go.Proofs.Ytkhedaaaimnikaa.fnUnionMaxIsLeastUpperBound
