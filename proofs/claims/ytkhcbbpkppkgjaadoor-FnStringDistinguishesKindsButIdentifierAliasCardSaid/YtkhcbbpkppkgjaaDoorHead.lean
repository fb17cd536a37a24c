/-
  The head's word of the dump as a list of numbers, and the three closed facts of every row that read it, proved so that the kernel reads the word once. No condition.
-/
import Derived.Test.YtkhcbbpkppkgjaaDoorRows
import Derived.JoinedOf
import Derived.KernelRfl
namespace Go.Proofs.YtkhcbbpkppkgjaaDoor
open Go

set_option maxRecDepth 100000 in
def headN : List Nat := [104, 97, 114, 110, 101, 115, 115, 32, 57, 48, 98, 102, 56, 102, 48, 49, 99, 56, 101, 50, 49, 54, 57, 99, 57, 53, 100, 54, 55, 50, 56, 51, 97, 53, 50, 55, 49, 97, 53, 56, 57, 51, 57, 54, 97, 51, 48, 57, 56, 48, 51, 49, 49, 100, 49, 100, 53, 57, 48, 100, 53, 97, 53, 52, 49, 55, 56, 98, 100, 101, 52, 52, 32, 99, 117, 116, 32, 97, 116, 32, 103, 105, 116, 104, 117, 98, 46, 99, 111, 109, 47, 101, 118, 97, 110, 119, 47, 101, 115, 98, 117, 105, 108, 100, 47, 110, 48, 49, 49, 95, 49, 56, 55, 46, 70, 110, 87, 111, 117, 108, 100, 83, 116, 97, 114, 116, 73, 100, 101, 110, 116, 105, 102, 105, 101, 114, 67, 97, 115, 101, 84, 97, 98, 108, 101, 32, 103, 105, 116, 104, 117, 98, 46, 99, 111, 109, 47, 101, 118, 97, 110, 119, 47, 101, 115, 98, 117, 105, 108, 100, 47, 110, 48, 49, 49, 95, 49, 56, 55, 46, 70, 110, 73, 115, 86, 97, 108, 105, 100, 69, 115, 99, 97, 112, 101, 67, 97, 115, 101, 84, 97, 98, 108, 101, 32, 103, 105, 116, 104, 117, 98, 46, 99, 111, 109, 47, 101, 118, 97, 110, 119, 47, 101, 115, 98, 117, 105, 108, 100, 47, 110, 48, 49, 49, 95, 49, 56, 55, 46, 70, 110, 87, 111, 117, 108, 100, 83, 116, 97, 114, 116, 73, 100, 101, 110, 116, 105, 102, 105, 101, 114, 87, 105, 116, 104, 111, 117, 116, 69, 115, 99, 97, 112, 101, 115, 69, 120, 116, 101, 110, 115, 105, 111, 110, 32, 103, 105, 116, 104, 117, 98, 46, 99, 111, 109, 47, 101, 118, 97, 110, 119, 47, 101, 115, 98, 117, 105, 108, 100, 47, 110, 48, 49, 49, 95, 49, 56, 55, 46, 70, 110, 82, 97, 110, 103, 101, 79, 102, 73, 100, 101, 110, 116, 105, 102, 105, 101, 114, 69, 115, 99, 97, 112, 101, 70, 114, 101, 101, 73, 115, 78, 97, 109, 101, 82, 117, 110, 32, 103, 105, 116, 104, 117, 98, 46, 99, 111, 109, 47, 101, 118, 97, 110, 119, 47, 101, 115, 98, 117, 105, 108, 100, 47, 110, 48, 49, 49, 95, 50, 56, 49, 46, 70, 110, 83, 116, 114, 105, 110, 103, 68, 105, 115, 116, 105, 110, 103, 117, 105, 115, 104, 101, 115, 75, 105, 110, 100, 115, 66, 117, 116, 73, 100, 101, 110, 116, 105, 102, 105, 101, 114, 65, 108, 105, 97, 115, 32, 103, 105, 116, 104, 117, 98, 46, 99, 111, 109, 47, 101, 118, 97, 110, 119, 47, 101, 115, 98, 117, 105, 108, 100, 47, 110, 48, 49, 49, 95, 49, 55, 48, 46, 70, 110, 87, 111, 117, 108, 100, 83, 116, 97, 114, 116, 78, 117, 109, 98, 101, 114, 73, 115, 80, 117, 114, 101, 65, 110, 100, 76, 111, 99, 97, 108]
def headL : List Char := headN.map Char.ofNat
theorem head_bytes : Tryd.prog.initOrder.toByteArray = headL.utf8Encode := by kernel_rfl
theorem head_eq : Tryd.prog.initOrder = String.ofList headL := String.toByteArray_inj.1 (head_bytes.trans String.toByteArray_ofList.symm)
theorem head_list : Tryd.prog.initOrder.toList = headL := by rw [head_eq, String.toList_ofList]
/-- What 'mayEnter', 'liftsFinal', 'make' come to once the head's word is known as a list of signs. -/
def enterL (P : Program) (L : List Char) : { b : Bool // P.initOrder.toList = L → P.mayEnter = b } := ⟨_, fun h => by unfold Program.mayEnter; rw [h]⟩
def finalL (P : Program) (L : List Char) : { b : Bool // P.initOrder.toList = L → P.liftsFinal = b } := ⟨_, fun h => by unfold Program.liftsFinal Program.headLifts; rw [h]⟩
def makeL (P : Program) (L : List Char) : { m : Option Make // P.initOrder.toList = L → P.make = m } := ⟨_, fun h => by unfold Program.make Program.headLifts; rw [h]⟩
theorem enter_of (P : Program) (L : List Char) (h : P.initOrder.toList = L) (hb : (enterL P L).val = true) : P.mayEnter = true := ((enterL P L).property h).trans hb
theorem final_of (P : Program) (L : List Char) (h : P.initOrder.toList = L) (b : Bool) (hb : (finalL P L).val = b) : P.liftsFinal = b := ((finalL P L).property h).trans hb
theorem make_of (P : Program) (L : List Char) (h : P.initOrder.toList = L) (m : Option Make) (hb : (makeL P L).val = m) : P.make = m := ((makeL P L).property h).trans hb
theorem head_enter : Tryd.prog.mayEnter = true := enter_of _ headL head_list (by kernel_rfl)
theorem head_final : Tryd.prog.liftsFinal = false := final_of _ headL head_list _ (by kernel_rfl)
theorem head_make : Tryd.prog.make = some (.cut) := make_of _ headL head_list _ (by kernel_rfl)

/-- The closed facts of a row once the three that read the head's word are paid. -/
def lightFacts (P : Program) (f : FuncId) (fn : Func) (s : ChangeSpec) (c : OpenClaim) :
    { b : Bool // P.mayEnter = true → (c.lifted == P.liftsFinal) = true → (P.make == some c.make) = true → joinedFacts P f fn s c = b } :=
  ⟨_, fun h1 h2 h3 => by unfold joinedFacts; rw [h1, h2, h3]⟩
theorem joined {f : FuncId} {fn : Func} {s : ChangeSpec} {c : OpenClaim} (h : (lightFacts Tryd.prog f fn s c).val = true) (hl : c.lifted = false) (hm : c.make = .cut) : joinedFacts Tryd.prog f fn s c = true :=
  ((lightFacts Tryd.prog f fn s c).property head_enter (by rw [head_final, hl]; rfl) (by rw [head_make, hm]; decide)).trans h
end Go.Proofs.YtkhcbbpkppkgjaaDoor
