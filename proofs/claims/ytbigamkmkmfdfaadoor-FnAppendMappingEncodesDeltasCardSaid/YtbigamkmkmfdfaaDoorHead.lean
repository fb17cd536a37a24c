/-
  The head's word of the dump as a list of numbers, and the three closed facts of every row that read it, proved so that the kernel reads the word once. No condition.
-/
import Derived.Test.YtbigamkmkmfdfaaDoorRows
import Derived.JoinedOf
import Derived.KernelRfl
namespace Go.Proofs.YtbigamkmkmfdfaaDoor
open Go

set_option maxRecDepth 100000 in
def headN : List Nat := [104, 97, 114, 110, 101, 115, 115, 32, 55, 55, 53, 54, 97, 97, 97, 98, 48, 53, 99, 101, 57, 101, 52, 50, 101, 99, 53, 98, 102, 49, 56, 48, 57, 57, 99, 97, 97, 55, 52, 102, 98, 102, 101, 102, 54, 102, 51, 50, 48, 48, 102, 52, 99, 98, 56, 49, 50, 57, 56, 99, 54, 50, 48, 51, 98, 102, 54, 57, 55, 48, 54, 55, 32, 99, 117, 116, 32, 97, 116, 32, 103, 105, 116, 104, 117, 98, 46, 99, 111, 109, 47, 101, 118, 97, 110, 119, 47, 101, 115, 98, 117, 105, 108, 100, 47, 110, 48, 49, 49, 95, 49, 48, 56, 46, 70, 110, 72, 97, 115, 67, 111, 110, 116, 101, 110, 116, 65, 103, 114, 101, 101, 115, 87, 105, 116, 104, 70, 105, 110, 97, 108, 105, 122, 101, 32, 103, 105, 116, 104, 117, 98, 46, 99, 111, 109, 47, 101, 118, 97, 110, 119, 47, 101, 115, 98, 117, 105, 108, 100, 47, 110, 48, 49, 49, 95, 49, 57, 52, 46, 70, 110, 68, 101, 99, 111, 100, 101, 86, 76, 81, 73, 110, 118, 101, 114, 116, 115, 69, 110, 99, 111, 100, 101, 86, 76, 81, 32, 103, 105, 116, 104, 117, 98, 46, 99, 111, 109, 47, 101, 118, 97, 110, 119, 47, 101, 115, 98, 117, 105, 108, 100, 47, 110, 48, 49, 49, 95, 49, 48, 56, 46, 70, 110, 65, 112, 112, 101, 110, 100, 77, 97, 112, 112, 105, 110, 103, 68, 101, 112, 101, 110, 100, 115, 79, 110, 108, 121, 79, 110, 68, 101, 108, 116, 97, 115, 32, 103, 105, 116, 104, 117, 98, 46, 99, 111, 109, 47, 101, 118, 97, 110, 119, 47, 101, 115, 98, 117, 105, 108, 100, 47, 110, 48, 49, 49, 95, 49, 57, 52, 46, 70, 110, 68, 101, 99, 111, 100, 101, 86, 76, 81, 77, 97, 116, 99, 104, 101, 115, 72, 111, 114, 110, 101, 114, 77, 111, 100, 101, 108, 32, 103, 105, 116, 104, 117, 98, 46, 99, 111, 109, 47, 101, 118, 97, 110, 119, 47, 101, 115, 98, 117, 105, 108, 100, 47, 110, 48, 49, 49, 95, 49, 48, 56, 46, 70, 110, 70, 105, 110, 97, 108, 105, 122, 101, 79, 110, 101, 83, 104, 105, 102, 116, 67, 111, 110, 99, 97, 116, 101, 110, 97, 116, 101, 115, 32, 103, 105, 116, 104, 117, 98, 46, 99, 111, 109, 47, 101, 118, 97, 110, 119, 47, 101, 115, 98, 117, 105, 108, 100, 47, 110, 48, 49, 49, 95, 49, 48, 56, 46, 70, 110, 65, 112, 112, 101, 110, 100, 77, 97, 112, 112, 105, 110, 103, 69, 110, 99, 111, 100, 101, 115, 68, 101, 108, 116, 97, 115]
def headL : List Char := headN.map Char.ofNat
theorem head_bytes : Tryd.prog.initOrder.toByteArray = headL.utf8Encode := by kernel_rfl
theorem head_eq : Tryd.prog.initOrder = String.ofList headL := String.toByteArray_inj.1 (head_bytes.trans String.toByteArray_ofList.symm)
theorem head_list : Tryd.prog.initOrder.toList = headL := by rw [head_eq, String.toList_ofList]
/-- What 'mayEnter', 'liftsFinal', 'make' come to once the head's word is known as a list of signs. -/
def enterL (P : Program) (L : List Char) : { b : Bool // P.initOrder.toList = L → P.mayEnter = b } := ⟨_, fun h => by unfold Program.mayEnter; rw [h]⟩
def finalL (P : Program) (L : List Char) : { b : Bool // P.initOrder.toList = L → P.liftsFinal = b } := ⟨_, fun h => by unfold Program.liftsFinal Program.headLifts; rw [h]⟩
def makeL (P : Program) (L : List Char) : { m : Option Make // P.initOrder.toList = L → P.make = m } := ⟨_, fun h => by unfold Program.make Program.headLifts; rw [h]⟩
theorem enter_of (P : Program) (L : List Char) (h : P.initOrder.toList = L) (hb : (enterL P L).val = true) : P.mayEnter = true := ((enterL P L).property h).trans hb
theorem final_of (P : Program) (L : List Char) (h : P.initOrder.toList = L) (b : Bool) (hb : (finalL P L).val = b) : P.liftsFinal = b := ((finalL P L).property h).trans hb
theorem make_of (P : Program) (L : List Char) (h : P.initOrder.toList = L) (m : Option Make) (hb : (makeL P L).val = m) : P.make = m := ((makeL P L).property h).trans hb
theorem head_enter : Tryd.prog.mayEnter = true := enter_of _ headL head_list (by kernel_rfl)
theorem head_final : Tryd.prog.liftsFinal = false := final_of _ headL head_list _ (by kernel_rfl)
theorem head_make : Tryd.prog.make = some (.cut) := make_of _ headL head_list _ (by kernel_rfl)

/-- The closed facts of a row once the three that read the head's word are paid. -/
def lightFacts (P : Program) (f : FuncId) (fn : Func) (s : ChangeSpec) (c : OpenClaim) :
    { b : Bool // P.mayEnter = true → (c.lifted == P.liftsFinal) = true → (P.make == some c.make) = true → joinedFacts P f fn s c = b } :=
  ⟨_, fun h1 h2 h3 => by unfold joinedFacts; rw [h1, h2, h3]⟩
theorem joined {f : FuncId} {fn : Func} {s : ChangeSpec} {c : OpenClaim} (h : (lightFacts Tryd.prog f fn s c).val = true) (hl : c.lifted = false) (hm : c.make = .cut) : joinedFacts Tryd.prog f fn s c = true :=
  ((lightFacts Tryd.prog f fn s c).property head_enter (by rw [head_final, hl]; rfl) (by rw [head_make, hm]; decide)).trans h
end Go.Proofs.YtbigamkmkmfdfaaDoor
