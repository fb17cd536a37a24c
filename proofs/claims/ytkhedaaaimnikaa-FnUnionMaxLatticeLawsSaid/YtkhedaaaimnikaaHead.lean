/-
  The head's word of the dump as a list of numbers, and the three closed facts of every row that read it, proved so that the kernel reads the word once. No condition.
-/
import Derived.Test.YtkhedaaaimnikaaRows
import Derived.JoinedOf
import Derived.KernelRfl
namespace Go.Proofs.Ytkhedaaaimnikaa
open Go

set_option maxRecDepth 100000 in
def headN : List Nat := [104, 97, 114, 110, 101, 115, 115, 32, 57, 52, 49, 54, 51, 48, 55, 98, 100, 99, 100, 100, 54, 57, 102, 99, 101, 97, 53, 53, 98, 51, 49, 100, 53, 101, 53, 101, 102, 57, 57, 55, 100, 52, 50, 54, 50, 97, 55, 102, 56, 53, 101, 100, 49, 98, 102, 97, 49, 54, 97, 56, 55, 55, 102, 50, 102, 56, 49, 53, 49, 49, 97, 54, 32, 99, 117, 116, 32, 97, 116, 32, 103, 105, 116, 104, 117, 98, 46, 99, 111, 109, 47, 101, 118, 97, 110, 119, 47, 101, 115, 98, 117, 105, 108, 100, 47, 110, 48, 49, 49, 95, 50, 51, 48, 46, 70, 110, 73, 115, 76, 101, 116, 116, 101, 114, 65, 83, 67, 73, 73, 77, 111, 100, 101, 108, 32, 103, 105, 116, 104, 117, 98, 46, 99, 111, 109, 47, 101, 118, 97, 110, 119, 47, 101, 115, 98, 117, 105, 108, 100, 47, 110, 48, 49, 49, 95, 50, 51, 48, 46, 70, 110, 73, 115, 85, 112, 112, 101, 114, 65, 83, 67, 73, 73, 73, 115, 76, 101, 116, 116, 101, 114, 87, 105, 116, 104, 67, 97, 115, 101, 66, 105, 116, 67, 108, 101, 97, 114, 32, 103, 105, 116, 104, 117, 98, 46, 99, 111, 109, 47, 101, 118, 97, 110, 119, 47, 101, 115, 98, 117, 105, 108, 100, 47, 110, 48, 49, 49, 95, 53, 48, 46, 70, 110, 73, 115, 78, 111, 110, 80, 114, 105, 110, 116, 97, 98, 108, 101, 66, 105, 116, 109, 97, 115, 107, 77, 111, 100, 101, 108, 32, 103, 105, 116, 104, 117, 98, 46, 99, 111, 109, 47, 101, 118, 97, 110, 119, 47, 101, 115, 98, 117, 105, 108, 100, 47, 110, 48, 49, 49, 95, 53, 48, 46, 70, 110, 73, 115, 78, 101, 119, 108, 105, 110, 101, 69, 120, 97, 99, 116, 82, 97, 110, 103, 101, 32, 103, 105, 116, 104, 117, 98, 46, 99, 111, 109, 47, 101, 118, 97, 110, 119, 47, 101, 115, 98, 117, 105, 108, 100, 47, 110, 48, 49, 49, 95, 53, 48, 46, 70, 110, 73, 115, 87, 104, 105, 116, 101, 115, 112, 97, 99, 101, 78, 101, 105, 116, 104, 101, 114, 78, 111, 110, 80, 114, 105, 110, 116, 97, 98, 108, 101, 78, 111, 114, 78, 97, 109, 101, 32, 103, 105, 116, 104, 117, 98, 46, 99, 111, 109, 47, 101, 118, 97, 110, 119, 47, 101, 115, 98, 117, 105, 108, 100, 47, 110, 48, 49, 49, 95, 55, 53, 46, 70, 110, 73, 115, 85, 110, 98, 111, 117, 110, 100, 79, 114, 73, 110, 106, 101, 99, 116, 101, 100, 69, 120, 99, 108, 117, 100, 101, 115, 79, 116, 104, 101, 114, 67, 108, 97, 115, 115, 101, 115, 32, 103, 105, 116, 104, 117, 98, 46, 99, 111, 109, 47, 101, 118, 97, 110, 119, 47, 101, 115, 98, 117, 105, 108, 100, 47, 110, 48, 49, 49, 95, 50, 48, 49, 46, 70, 110, 73, 115, 65, 115, 115, 105, 103, 110, 69, 120, 97, 99, 116, 108, 121, 84, 104, 101, 83, 105, 120, 116, 101, 101, 110, 65, 115, 115, 105, 103, 110, 109, 101, 110, 116, 84, 111, 107, 101, 110, 115, 32, 103, 105, 116, 104, 117, 98, 46, 99, 111, 109, 47, 101, 118, 97, 110, 119, 47, 101, 115, 98, 117, 105, 108, 100, 47, 110, 48, 49, 49, 95, 50, 46, 70, 110, 73, 115, 72, 101, 120, 73, 110, 118, 101, 114, 116, 115, 68, 105, 103, 105, 116, 69, 110, 99, 111, 100, 105, 110, 103, 32, 103, 105, 116, 104, 117, 98, 46, 99, 111, 109, 47, 101, 118, 97, 110, 119, 47, 101, 115, 98, 117, 105, 108, 100, 47, 110, 48, 49, 49, 95, 55, 53, 46, 70, 110, 85, 110, 105, 111, 110, 77, 97, 120, 73, 115, 76, 101, 97, 115, 116, 85, 112, 112, 101, 114, 66, 111, 117, 110, 100, 32, 103, 105, 116, 104, 117, 98, 46, 99, 111, 109, 47, 101, 118, 97, 110, 119, 47, 101, 115, 98, 117, 105, 108, 100, 47, 110, 48, 49, 49, 95, 53, 48, 46, 70, 110, 73, 115, 78, 97, 109, 101, 67, 111, 110, 116, 105, 110, 117, 101, 67, 111, 118, 101, 114, 115, 83, 116, 97, 114, 116, 65, 110, 100, 72, 101, 120, 69, 120, 99, 108, 117, 100, 101, 115, 83, 112, 97, 99, 101, 32, 103, 105, 116, 104, 117, 98, 46, 99, 111, 109, 47, 101, 118, 97, 110, 119, 47, 101, 115, 98, 117, 105, 108, 100, 47, 110, 48, 49, 49, 95, 55, 53, 46, 70, 110, 85, 110, 105, 111, 110, 77, 97, 120, 76, 97, 116, 116, 105, 99, 101, 76, 97, 119, 115]
def headL : List Char := headN.map Char.ofNat
theorem head_bytes : Try.prog.initOrder.toByteArray = headL.utf8Encode := by kernel_rfl
theorem head_eq : Try.prog.initOrder = String.ofList headL := String.toByteArray_inj.1 (head_bytes.trans String.toByteArray_ofList.symm)
theorem head_list : Try.prog.initOrder.toList = headL := by rw [head_eq, String.toList_ofList]
/-- What 'mayEnter', 'liftsFinal', 'make' come to once the head's word is known as a list of signs. -/
def enterL (P : Program) (L : List Char) : { b : Bool // P.initOrder.toList = L → P.mayEnter = b } := ⟨_, fun h => by unfold Program.mayEnter; rw [h]⟩
def finalL (P : Program) (L : List Char) : { b : Bool // P.initOrder.toList = L → P.liftsFinal = b } := ⟨_, fun h => by unfold Program.liftsFinal Program.headLifts; rw [h]⟩
def makeL (P : Program) (L : List Char) : { m : Option Make // P.initOrder.toList = L → P.make = m } := ⟨_, fun h => by unfold Program.make Program.headLifts; rw [h]⟩
theorem enter_of (P : Program) (L : List Char) (h : P.initOrder.toList = L) (hb : (enterL P L).val = true) : P.mayEnter = true := ((enterL P L).property h).trans hb
theorem final_of (P : Program) (L : List Char) (h : P.initOrder.toList = L) (b : Bool) (hb : (finalL P L).val = b) : P.liftsFinal = b := ((finalL P L).property h).trans hb
theorem make_of (P : Program) (L : List Char) (h : P.initOrder.toList = L) (m : Option Make) (hb : (makeL P L).val = m) : P.make = m := ((makeL P L).property h).trans hb
theorem head_enter : Try.prog.mayEnter = true := enter_of _ headL head_list (by kernel_rfl)
theorem head_final : Try.prog.liftsFinal = false := final_of _ headL head_list _ (by kernel_rfl)
theorem head_make : Try.prog.make = some (.cut) := make_of _ headL head_list _ (by kernel_rfl)

/-- The closed facts of a row once the three that read the head's word are paid. -/
def lightFacts (P : Program) (f : FuncId) (fn : Func) (s : ChangeSpec) (c : OpenClaim) :
    { b : Bool // P.mayEnter = true → (c.lifted == P.liftsFinal) = true → (P.make == some c.make) = true → joinedFacts P f fn s c = b } :=
  ⟨_, fun h1 h2 h3 => by unfold joinedFacts; rw [h1, h2, h3]⟩
theorem joined {f : FuncId} {fn : Func} {s : ChangeSpec} {c : OpenClaim} (h : (lightFacts Try.prog f fn s c).val = true) (hl : c.lifted = false) (hm : c.make = .cut) : joinedFacts Try.prog f fn s c = true :=
  ((lightFacts Try.prog f fn s c).property head_enter (by rw [head_final, hl]; rfl) (by rw [head_make, hm]; decide)).trans h
end Go.Proofs.Ytkhedaaaimnikaa
