/-
  The head's word of the dump as a list of numbers, and the three closed facts of every row that read it, proved so that the kernel reads the word once. No condition.
-/
import Derived.Test.YtocciemgdikmjaaDoorRows
import Derived.JoinedOf
import Derived.KernelRfl
namespace Go.Proofs.YtocciemgdikmjaaDoor
open Go

set_option maxRecDepth 100000 in
def headN : List Nat := [104, 97, 114, 110, 101, 115, 115, 32, 102, 55, 52, 97, 100, 97, 51, 54, 102, 49, 57, 102, 49, 52, 98, 55, 101, 99, 50, 49, 100, 55, 56, 99, 101, 57, 50, 52, 99, 101, 102, 52, 50, 56, 48, 48, 57, 98, 53, 49, 97, 98, 51, 52, 50, 54, 99, 48, 57, 52, 48, 56, 54, 52, 57, 48, 50, 97, 101, 52, 48, 98, 101, 51, 32, 99, 117, 116, 32, 97, 116, 32, 103, 105, 116, 104, 117, 98, 46, 99, 111, 109, 47, 101, 118, 97, 110, 119, 47, 101, 115, 98, 117, 105, 108, 100, 47, 110, 48, 49, 49, 95, 50, 56, 49, 46, 70, 110, 84, 111, 107, 101, 110, 105, 122, 101, 77, 97, 116, 99, 104, 101, 115, 83, 109, 97, 108, 108, 71, 114, 97, 109, 109, 97, 114, 32, 103, 105, 116, 104, 117, 98, 46, 99, 111, 109, 47, 101, 118, 97, 110, 119, 47, 101, 115, 98, 117, 105, 108, 100, 47, 110, 48, 49, 49, 95, 49, 55, 48, 46, 70, 110, 67, 111, 110, 115, 117, 109, 101, 73, 100, 101, 110, 116, 76, 105, 107, 101, 77, 97, 116, 99, 104, 101, 115, 77, 111, 100, 101, 108, 32, 103, 105, 116, 104, 117, 98, 46, 99, 111, 109, 47, 101, 118, 97, 110, 119, 47, 101, 115, 98, 117, 105, 108, 100, 47, 110, 48, 49, 49, 95, 50, 56, 49, 46, 70, 110, 73, 115, 78, 117, 109, 101, 114, 105, 99, 69, 120, 97, 99, 116, 108, 121, 70, 111, 114, 84, 111, 107, 101, 110, 115, 84, 104, 97, 116, 83, 116, 97, 114, 116, 65, 78, 117, 109, 98, 101, 114, 32, 103, 105, 116, 104, 117, 98, 46, 99, 111, 109, 47, 101, 118, 97, 110, 119, 47, 101, 115, 98, 117, 105, 108, 100, 47, 110, 48, 49, 49, 95, 51, 49, 49, 46, 70, 110, 67, 111, 110, 115, 117, 109, 101, 83, 116, 114, 105, 110, 103, 69, 110, 100, 115, 87, 101, 108, 108, 32, 103, 105, 116, 104, 117, 98, 46, 99, 111, 109, 47, 101, 118, 97, 110, 119, 47, 101, 115, 98, 117, 105, 108, 100, 47, 110, 48, 49, 49, 95, 49, 49, 49, 46, 70, 110, 78, 101, 120, 116, 77, 97, 116, 99, 104, 101, 115, 84, 111, 107, 101, 110, 77, 111, 100, 101, 108, 79, 110, 83, 109, 97, 108, 108, 65, 108, 112, 104, 97, 98, 101, 116, 32, 103, 105, 116, 104, 117, 98, 46, 99, 111, 109, 47, 101, 118, 97, 110, 119, 47, 101, 115, 98, 117, 105, 108, 100, 47, 110, 48, 49, 49, 95, 49, 55, 48, 46, 70, 110, 67, 111, 110, 115, 117, 109, 101, 78, 97, 109, 101, 77, 97, 116, 99, 104, 101, 115, 77, 111, 100, 101, 108, 32, 103, 105, 116, 104, 117, 98, 46, 99, 111, 109, 47, 101, 118, 97, 110, 119, 47, 101, 115, 98, 117, 105, 108, 100, 47, 110, 48, 49, 49, 95, 49, 49, 49, 46, 70, 110, 78, 101, 120, 116, 84, 105, 108, 101, 115, 84, 104, 101, 73, 110, 112, 117, 116, 65, 110, 100, 67, 111, 117, 110, 116, 115, 69, 118, 101, 114, 121, 78, 101, 119, 108, 105, 110, 101]
def headL : List Char := headN.map Char.ofNat
theorem head_bytes : Tryd.prog.initOrder.toByteArray = headL.utf8Encode := by kernel_rfl
theorem head_eq : Tryd.prog.initOrder = String.ofList headL := String.toByteArray_inj.1 (head_bytes.trans String.toByteArray_ofList.symm)
theorem head_list : Tryd.prog.initOrder.toList = headL := by rw [head_eq, String.toList_ofList]
/-- What 'mayEnter', 'liftsFinal', 'make' come to once the head's word is known as a list of signs. -/
def enterL (P : Program) (L : List Char) : { b : Bool // P.initOrder.toList = L → P.mayEnter = b } := ⟨_, fun h => by unfold Program.mayEnter; rw [h]⟩
def finalL (P : Program) (L : List Char) : { b : Bool // P.initOrder.toList = L → P.liftsFinal = b } := ⟨_, fun h => by unfold Program.liftsFinal Program.headLifts; rw [h]⟩
def makeL (P : Program) (L : List Char) : { m : Option Make // P.initOrder.toList = L → P.make = m } := ⟨_, fun h => by unfold Program.make Program.headLifts; rw [h]⟩
theorem enter_of (P : Program) (L : List Char) (h : P.initOrder.toList = L) (hb : (enterL P L).val = true) : P.mayEnter = true := ((enterL P L).property h).trans hb
theorem final_of (P : Program) (L : List Char) (h : P.initOrder.toList = L) (b : Bool) (hb : (finalL P L).val = b) : P.liftsFinal = b := ((finalL P L).property h).trans hb
theorem make_of (P : Program) (L : List Char) (h : P.initOrder.toList = L) (m : Option Make) (hb : (makeL P L).val = m) : P.make = m := ((makeL P L).property h).trans hb
theorem head_enter : Tryd.prog.mayEnter = true := enter_of _ headL head_list (by kernel_rfl)
theorem head_final : Tryd.prog.liftsFinal = false := final_of _ headL head_list _ (by kernel_rfl)
theorem head_make : Tryd.prog.make = some (.cut) := make_of _ headL head_list _ (by kernel_rfl)

/-- The closed facts of a row once the three that read the head's word are paid. -/
def lightFacts (P : Program) (f : FuncId) (fn : Func) (s : ChangeSpec) (c : OpenClaim) :
    { b : Bool // P.mayEnter = true → (c.lifted == P.liftsFinal) = true → (P.make == some c.make) = true → joinedFacts P f fn s c = b } :=
  ⟨_, fun h1 h2 h3 => by unfold joinedFacts; rw [h1, h2, h3]⟩
theorem joined {f : FuncId} {fn : Func} {s : ChangeSpec} {c : OpenClaim} (h : (lightFacts Tryd.prog f fn s c).val = true) (hl : c.lifted = false) (hm : c.make = .cut) : joinedFacts Tryd.prog f fn s c = true :=
  ((lightFacts Tryd.prog f fn s c).property head_enter (by rw [head_final, hl]; rfl) (by rw [head_make, hm]; decide)).trans h
end Go.Proofs.YtocciemgdikmjaaDoor
