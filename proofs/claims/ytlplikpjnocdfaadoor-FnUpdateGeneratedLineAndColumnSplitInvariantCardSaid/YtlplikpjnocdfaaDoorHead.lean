/-
  The head's word of the dump as a list of numbers, and the three closed facts of every row that read it, proved so that the kernel reads the word once. No condition.
-/
import Derived.Test.YtlplikpjnocdfaaDoorRows
import Derived.JoinedOf
import Derived.KernelRfl
namespace Go.Proofs.YtlplikpjnocdfaaDoor
open Go

set_option maxRecDepth 100000 in
def headN : List Nat := [104, 97, 114, 110, 101, 115, 115, 32, 98, 56, 52, 56, 48, 55, 98, 102, 54, 55, 56, 56, 57, 54, 100, 51, 50, 100, 99, 97, 97, 97, 101, 52, 50, 50, 101, 97, 49, 49, 100, 97, 50, 55, 53, 100, 53, 50, 99, 49, 50, 52, 57, 50, 101, 100, 56, 49, 57, 48, 50, 102, 50, 55, 53, 100, 51, 57, 101, 55, 56, 97, 102, 48, 32, 99, 117, 116, 32, 97, 116, 32, 103, 105, 116, 104, 117, 98, 46, 99, 111, 109, 47, 101, 118, 97, 110, 119, 47, 101, 115, 98, 117, 105, 108, 100, 47, 110, 48, 49, 49, 95, 49, 50, 51, 46, 70, 110, 65, 112, 112, 101, 110, 100, 77, 97, 112, 112, 105, 110, 103, 87, 105, 116, 104, 111, 117, 116, 82, 101, 109, 97, 112, 112, 105, 110, 103, 68, 101, 99, 111, 100, 101, 115, 84, 111, 68, 101, 108, 116, 97, 115, 32, 103, 105, 116, 104, 117, 98, 46, 99, 111, 109, 47, 101, 118, 97, 110, 119, 47, 101, 115, 98, 117, 105, 108, 100, 47, 110, 48, 49, 49, 95, 49, 50, 51, 46, 70, 110, 85, 112, 100, 97, 116, 101, 71, 101, 110, 101, 114, 97, 116, 101, 100, 76, 105, 110, 101, 65, 110, 100, 67, 111, 108, 117, 109, 110, 83, 112, 108, 105, 116, 73, 110, 118, 97, 114, 105, 97, 110, 116]
def headL : List Char := headN.map Char.ofNat
theorem head_bytes : Tryd.prog.initOrder.toByteArray = headL.utf8Encode := by kernel_rfl
theorem head_eq : Tryd.prog.initOrder = String.ofList headL := String.toByteArray_inj.1 (head_bytes.trans String.toByteArray_ofList.symm)
theorem head_list : Tryd.prog.initOrder.toList = headL := by rw [head_eq, String.toList_ofList]
/-- What 'mayEnter', 'liftsFinal', 'make' come to once the head's word is known as a list of signs. -/
def enterL (P : Program) (L : List Char) : { b : Bool // P.initOrder.toList = L → P.mayEnter = b } := ⟨_, fun h => by unfold Program.mayEnter; rw [h]⟩
def finalL (P : Program) (L : List Char) : { b : Bool // P.initOrder.toList = L → P.liftsFinal = b } := ⟨_, fun h => by unfold Program.liftsFinal Program.headLifts; rw [h]⟩
def makeL (P : Program) (L : List Char) : { m : Option Make // P.initOrder.toList = L → P.make = m } := ⟨_, fun h => by unfold Program.make Program.headLifts; rw [h]⟩
theorem enter_of (P : Program) (L : List Char) (h : P.initOrder.toList = L) (hb : (enterL P L).val = true) : P.mayEnter = true := ((enterL P L).property h).trans hb
theorem final_of (P : Program) (L : List Char) (h : P.initOrder.toList = L) (b : Bool) (hb : (finalL P L).val = b) : P.liftsFinal = b := ((finalL P L).property h).trans hb
theorem make_of (P : Program) (L : List Char) (h : P.initOrder.toList = L) (m : Option Make) (hb : (makeL P L).val = m) : P.make = m := ((makeL P L).property h).trans hb
theorem head_enter : Tryd.prog.mayEnter = true := enter_of _ headL head_list (by kernel_rfl)
theorem head_final : Tryd.prog.liftsFinal = false := final_of _ headL head_list _ (by kernel_rfl)
theorem head_make : Tryd.prog.make = some (.cut) := make_of _ headL head_list _ (by kernel_rfl)

/-- The closed facts of a row once the three that read the head's word are paid. -/
def lightFacts (P : Program) (f : FuncId) (fn : Func) (s : ChangeSpec) (c : OpenClaim) :
    { b : Bool // P.mayEnter = true → (c.lifted == P.liftsFinal) = true → (P.make == some c.make) = true → joinedFacts P f fn s c = b } :=
  ⟨_, fun h1 h2 h3 => by unfold joinedFacts; rw [h1, h2, h3]⟩
theorem joined {f : FuncId} {fn : Func} {s : ChangeSpec} {c : OpenClaim} (h : (lightFacts Tryd.prog f fn s c).val = true) (hl : c.lifted = false) (hm : c.make = .cut) : joinedFacts Tryd.prog f fn s c = true :=
  ((lightFacts Tryd.prog f fn s c).property head_enter (by rw [head_final, hl]; rfl) (by rw [head_make, hm]; decide)).trans h
end Go.Proofs.YtlplikpjnocdfaaDoor
