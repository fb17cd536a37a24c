/-
  The head's word of the dump as a list of numbers, and the three closed facts of every row that read it, proved so that the kernel reads the word once. No condition.
-/
import Derived.Test.YtkhcbbpkppkgjaaRows
import Derived.JoinedOf
import Derived.KernelRfl
namespace Go.Proofs.Ytkhcbbpkppkgjaa
open Go

set_option maxRecDepth 100000 in
def headN : List Nat := [104, 97, 114, 110, 101, 115, 115, 32, 53, 99, 102, 57, 57, 52, 55, 51, 57, 48, 51, 101, 101, 55, 100, 55, 102, 53, 100, 52, 55, 51, 101, 99, 50, 53, 50, 51, 53, 97, 49, 49, 98, 57, 54, 101, 97, 54, 53, 55, 97, 51, 54, 53, 48, 48, 56, 53, 52, 53, 54, 49, 50, 102, 102, 97, 100, 100, 51, 101, 101, 99, 101, 48, 32, 99, 117, 116, 32, 97, 116, 32, 103, 105, 116, 104, 117, 98, 46, 99, 111, 109, 47, 101, 118, 97, 110, 119, 47, 101, 115, 98, 117, 105, 108, 100, 47, 110, 48, 49, 49, 95, 49, 49, 49, 46, 70, 110, 67, 111, 110, 116, 97, 105, 110, 115, 65, 116, 77, 97, 116, 99, 104, 101, 115, 83, 117, 98, 115, 116, 114, 105, 110, 103, 83, 101, 97, 114, 99, 104, 32, 103, 105, 116, 104, 117, 98, 46, 99, 111, 109, 47, 101, 118, 97, 110, 119, 47, 101, 115, 98, 117, 105, 108, 100, 47, 110, 48, 49, 49, 95, 49, 49, 49, 46, 70, 110, 67, 111, 110, 116, 97, 105, 110, 115, 65, 116, 73, 115, 77, 111, 110, 111, 116, 111, 110, 101, 85, 110, 100, 101, 114, 67, 111, 110, 99, 97, 116, 101, 110, 97, 116, 105, 111, 110]
def headL : List Char := headN.map Char.ofNat
theorem head_bytes : Try.prog.initOrder.toByteArray = headL.utf8Encode := by kernel_rfl
theorem head_eq : Try.prog.initOrder = String.ofList headL := String.toByteArray_inj.1 (head_bytes.trans String.toByteArray_ofList.symm)
theorem head_list : Try.prog.initOrder.toList = headL := by rw [head_eq, String.toList_ofList]
/-- What 'mayEnter', 'liftsFinal', 'make' come to once the head's word is known as a list of signs. -/
def enterL (P : Program) (L : List Char) : { b : Bool // P.initOrder.toList = L → P.mayEnter = b } := ⟨_, fun h => by unfold Program.mayEnter; rw [h]⟩
def finalL (P : Program) (L : List Char) : { b : Bool // P.initOrder.toList = L → P.liftsFinal = b } := ⟨_, fun h => by unfold Program.liftsFinal Program.headLifts; rw [h]⟩
def makeL (P : Program) (L : List Char) : { m : Option Make // P.initOrder.toList = L → P.make = m } := ⟨_, fun h => by unfold Program.make Program.headLifts; rw [h]⟩
theorem enter_of (P : Program) (L : List Char) (h : P.initOrder.toList = L) (hb : (enterL P L).val = true) : P.mayEnter = true := ((enterL P L).property h).trans hb
theorem final_of (P : Program) (L : List Char) (h : P.initOrder.toList = L) (b : Bool) (hb : (finalL P L).val = b) : P.liftsFinal = b := ((finalL P L).property h).trans hb
theorem make_of (P : Program) (L : List Char) (h : P.initOrder.toList = L) (m : Option Make) (hb : (makeL P L).val = m) : P.make = m := ((makeL P L).property h).trans hb
theorem head_enter : Try.prog.mayEnter = true := enter_of _ headL head_list (by kernel_rfl)
theorem head_final : Try.prog.liftsFinal = false := final_of _ headL head_list _ (by kernel_rfl)
theorem head_make : Try.prog.make = some (.cut) := make_of _ headL head_list _ (by kernel_rfl)

/-- The closed facts of a row once the three that read the head's word are paid. -/
def lightFacts (P : Program) (f : FuncId) (fn : Func) (s : ChangeSpec) (c : OpenClaim) :
    { b : Bool // P.mayEnter = true → (c.lifted == P.liftsFinal) = true → (P.make == some c.make) = true → joinedFacts P f fn s c = b } :=
  ⟨_, fun h1 h2 h3 => by unfold joinedFacts; rw [h1, h2, h3]⟩
theorem joined {f : FuncId} {fn : Func} {s : ChangeSpec} {c : OpenClaim} (h : (lightFacts Try.prog f fn s c).val = true) (hl : c.lifted = false) (hm : c.make = .cut) : joinedFacts Try.prog f fn s c = true :=
  ((lightFacts Try.prog f fn s c).property head_enter (by rw [head_final, hl]; rfl) (by rw [head_make, hm]; decide)).trans h
end Go.Proofs.Ytkhcbbpkppkgjaa
