/-
  The head's word of the dump as a list of numbers, and the three closed facts of every row that read it, proved so that the kernel reads the word once. No condition.
-/
import Derived.Test.YtcnembabenlheaaDoorRows
import Derived.JoinedOf
import Derived.KernelRfl
namespace Go.Proofs.YtcnembabenlheaaDoor
open Go

set_option maxRecDepth 100000 in
def headN : List Nat := [104, 97, 114, 110, 101, 115, 115, 32, 50, 48, 102, 102, 97, 48, 52, 101, 54, 97, 48, 98, 57, 57, 102, 97, 102, 100, 97, 100, 53, 99, 49, 98, 54, 99, 97, 50, 99, 48, 48, 56, 101, 48, 98, 50, 101, 97, 97, 102, 52, 56, 54, 54, 49, 50, 49, 55, 56, 52, 51, 102, 50, 57, 56, 48, 53, 97, 49, 53, 101, 102, 51, 55, 32, 99, 117, 116, 32, 97, 116, 32, 103, 105, 116, 104, 117, 98, 46, 99, 111, 109, 47, 101, 118, 97, 110, 119, 47, 101, 115, 98, 117, 105, 108, 100, 47, 110, 48, 49, 49, 95, 50, 51, 48, 46, 70, 110, 83, 99, 97, 110, 80, 114, 97, 103, 109, 97, 65, 114, 103, 83, 112, 97, 110, 73, 110, 115, 105, 100, 101, 84, 101, 120, 116, 32, 103, 105, 116, 104, 117, 98, 46, 99, 111, 109, 47, 101, 118, 97, 110, 119, 47, 101, 115, 98, 117, 105, 108, 100, 47, 110, 48, 49, 49, 95, 50, 55, 52, 46, 70, 110, 68, 101, 99, 111, 100, 101, 69, 115, 99, 97, 112, 101, 115, 80, 108, 97, 105, 110, 84, 101, 120, 116, 78, 111, 114, 109, 97, 108, 105, 122, 101, 115, 78, 101, 119, 108, 105, 110, 101, 115, 32, 103, 105, 116, 104, 117, 98, 46, 99, 111, 109, 47, 101, 118, 97, 110, 119, 47, 101, 115, 98, 117, 105, 108, 100, 47, 110, 48, 49, 49, 95, 50, 55, 52, 46, 70, 110, 68, 101, 99, 111, 100, 101, 69, 115, 99, 97, 112, 101, 115, 85, 110, 105, 99, 111, 100, 101, 69, 115, 99, 97, 112, 101, 82, 111, 117, 110, 100, 84, 114, 105, 112, 32, 103, 105, 116, 104, 117, 98, 46, 99, 111, 109, 47, 101, 118, 97, 110, 119, 47, 101, 115, 98, 117, 105, 108, 100, 47, 110, 48, 49, 49, 95, 50, 48, 50, 46, 70, 110, 67, 111, 111, 107, 101, 100, 73, 115, 78, 105, 108, 79, 110, 66, 97, 100, 69, 115, 99, 97, 112, 101, 82, 97, 119, 75, 101, 112, 116, 32, 103, 105, 116, 104, 117, 98, 46, 99, 111, 109, 47, 101, 118, 97, 110, 119, 47, 101, 115, 98, 117, 105, 108, 100, 47, 110, 48, 49, 49, 95, 50, 56, 49, 46, 70, 110, 68, 101, 99, 111, 100, 101, 100, 84, 101, 120, 116, 79, 102, 69, 115, 99, 97, 112, 101, 70, 114, 101, 101, 84, 111, 107, 101, 110, 115]
def headL : List Char := headN.map Char.ofNat
theorem head_bytes : Tryd.prog.initOrder.toByteArray = headL.utf8Encode := by kernel_rfl
theorem head_eq : Tryd.prog.initOrder = String.ofList headL := String.toByteArray_inj.1 (head_bytes.trans String.toByteArray_ofList.symm)
theorem head_list : Tryd.prog.initOrder.toList = headL := by rw [head_eq, String.toList_ofList]
/-- What 'mayEnter', 'liftsFinal', 'make' come to once the head's word is known as a list of signs. -/
def enterL (P : Program) (L : List Char) : { b : Bool // P.initOrder.toList = L → P.mayEnter = b } := ⟨_, fun h => by unfold Program.mayEnter; rw [h]⟩
def finalL (P : Program) (L : List Char) : { b : Bool // P.initOrder.toList = L → P.liftsFinal = b } := ⟨_, fun h => by unfold Program.liftsFinal Program.headLifts; rw [h]⟩
def makeL (P : Program) (L : List Char) : { m : Option Make // P.initOrder.toList = L → P.make = m } := ⟨_, fun h => by unfold Program.make Program.headLifts; rw [h]⟩
theorem enter_of (P : Program) (L : List Char) (h : P.initOrder.toList = L) (hb : (enterL P L).val = true) : P.mayEnter = true := ((enterL P L).property h).trans hb
theorem final_of (P : Program) (L : List Char) (h : P.initOrder.toList = L) (b : Bool) (hb : (finalL P L).val = b) : P.liftsFinal = b := ((finalL P L).property h).trans hb
theorem make_of (P : Program) (L : List Char) (h : P.initOrder.toList = L) (m : Option Make) (hb : (makeL P L).val = m) : P.make = m := ((makeL P L).property h).trans hb
theorem head_enter : Tryd.prog.mayEnter = true := enter_of _ headL head_list (by kernel_rfl)
theorem head_final : Tryd.prog.liftsFinal = false := final_of _ headL head_list _ (by kernel_rfl)
theorem head_make : Tryd.prog.make = some (.cut) := make_of _ headL head_list _ (by kernel_rfl)

/-- The closed facts of a row once the three that read the head's word are paid. -/
def lightFacts (P : Program) (f : FuncId) (fn : Func) (s : ChangeSpec) (c : OpenClaim) :
    { b : Bool // P.mayEnter = true → (c.lifted == P.liftsFinal) = true → (P.make == some c.make) = true → joinedFacts P f fn s c = b } :=
  ⟨_, fun h1 h2 h3 => by unfold joinedFacts; rw [h1, h2, h3]⟩
theorem joined {f : FuncId} {fn : Func} {s : ChangeSpec} {c : OpenClaim} (h : (lightFacts Tryd.prog f fn s c).val = true) (hl : c.lifted = false) (hm : c.make = .cut) : joinedFacts Tryd.prog f fn s c = true :=
  ((lightFacts Tryd.prog f fn s c).property head_enter (by rw [head_final, hl]; rfl) (by rw [head_make, hm]; decide)).trans h
end Go.Proofs.YtcnembabenlheaaDoor
