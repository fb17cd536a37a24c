/-
  The css lexer at a place; step over places; the tokens plainly.
-/
import Derived.Test.YtocciemgdikmjaaDoorC2
namespace Go.Proofs.YtocciemgdikmjaaDoor
open Go.ChangeShapes Go.WideShapes Go.ChangeAt Go.RowKit
open Go.Lib (decodeN decode_at decodeGo)
set_option linter.unusedVariables false
/-- the lexer stands at place p, its token began at st -/
def At (w : World) (g : Nat) (s : ByteArray) (p st : Nat) : Prop := CL w g s (cnt s (p + 1) : Nat) (p + wid s p : Nat) (cpOf s p) st ((p : Int) - (st : Int))
theorem At.keep {w w' : World} {g : Nat} {s : ByteArray} {p st : Nat} (h : At w g s p st) (hb : Below w.heap.size w w') : At w' g s p st := CL.keep h hb
theorem At.lt {w : World} {g : Nat} {s : ByteArray} {p st : Nat} (h : At w g s p st) : g < w.heap.size := CL.lt h
theorem cnt_1 (s : ByteArray) : cnt s 1 = if cpOf s 0 = 10 then 1 else 0 := (cnt_one s 0 (Nat.zero_le _)).trans (Nat.zero_add _)
theorem step0 (w : World) (g : Nat) (s : ByteArray) (cp : Int) (h : CL w g s 0 0 cp 0 0) (hT : Lib.Utf8Tabs 0 1 w) (hs : s.size ≤ 1048576) :
    Calls Tryd.prog 54 #[.pointer (some ⟨g, 0, none⟩)] w fun e w' => e = .returned (.tuple #[]) ∧ At w' g s 0 0 ∧ Stepped w w' g := by
  refine (step_any w g s 0 0 cp 0 0 h hT (Nat.zero_le _) hs (by omega) (by omega) (by omega) (by omega)).mono ?_
  rintro e w' ⟨rfl, hc, hst⟩
  refine ⟨rfl, ?_, hst⟩
  unfold At
  rw [cnt_1]
  have e2 : ((if cpOf s 0 = 10 then 1 else 0 : Nat) : Int) = (if cpOf s 0 = 10 then (0 : Int) + 1 else 0) := by split <;> rfl
  rw [e2]
  exact hc
theorem step_at (w : World) (g : Nat) (s : ByteArray) (p st : Nat) (h : At w g s p st) (hT : Lib.Utf8Tabs 0 1 w) (hp : p ≤ s.size) (hs : s.size ≤ 1048576) (hst : st ≤ p) :
    Calls Tryd.prog 54 #[.pointer (some ⟨g, 0, none⟩)] w fun e w' => e = .returned (.tuple #[]) ∧ At w' g s (p + wid s p) st ∧ Stepped w w' g := by
  have h1 := wid_le s p hp
  have h2 := cnt_le s (p + 1)
  refine (step_any w g s _ (p + wid s p) _ _ _ h hT h1 hs (by omega) (by omega) (by omega) (by omega)).mono ?_
  rintro e w' ⟨rfl, hc, hs'⟩
  refine ⟨rfl, ?_, hs'⟩
  unfold At
  rw [cnt_step s p hp]
  have e2 : ((cnt s (p + 1) + (if cpOf s (p + wid s p) = 10 then 1 else 0) : Nat) : Int) = (if cpOf s (p + wid s p) = 10 then ((cnt s (p + 1) : Nat) : Int) + 1 else (cnt s (p + 1) : Nat)) := by split <;> simp
  rw [e2]
  exact hc
/-- step over an ASCII byte -/
theorem step_asc (w : World) (g : Nat) (s : ByteArray) (p st : Nat) (h : At w g s p st) (hT : Lib.Utf8Tabs 0 1 w) (hp : p < s.size) (hb : byt s p < 128) (hs : s.size ≤ 1048576) (hst : st ≤ p) :
    Calls Tryd.prog 54 #[.pointer (some ⟨g, 0, none⟩)] w fun e w' => e = .returned (.tuple #[]) ∧ At w' g s (p + 1) st ∧ Stepped w w' g := by
  have := step_at w g s p st h hT (by omega) hs hst
  rw [wid_asc s p hp hb] at this
  exact this
theorem Stepped.trans {w w1 w2 : World} {g : Nat} (h : Stepped w w1 g) (h2 : Stepped w1 w2 g) : Stepped w w2 g :=
  ⟨⟨h2.by_.os.trans h.by_.os, h2.by_.tape.trans h.by_.tape, h2.by_.output.trans h.by_.output, Nat.le_trans h.by_.size h2.by_.size, fun k hk hn => (h2.by_.block k (Nat.lt_of_lt_of_le hk h.by_.size) hn).trans (h.by_.block k hk hn)⟩, fun i a b c d => (h2.cells i a b c d).trans (h.cells i a b c d)⟩
/-- a store into the lexer's block, behind the cells that step knows -/
theorem CL.setO {w : World} {g : Nat} {s : ByteArray} {nl cur cp st ln : Int} (h : CL w g s nl cur cp st ln) (j : Nat) (hj : 37 < j) (v : Value) : CL (w.setCell ⟨g, j, none⟩ v) g s nl cur cp st ln :=
  ⟨by simpa using h.lt, by rw [cell_set_ne _ _ _ _ _ (by omega)]; exact h.c10, by rw [cell_set_ne _ _ _ _ _ (by omega)]; exact h.c32, by rw [cell_set_ne _ _ _ _ _ (by omega)]; exact h.c33, by rw [cell_set_ne _ _ _ _ _ (by omega)]; exact h.c35, by rw [cell_set_ne _ _ _ _ _ (by omega)]; exact h.c36, by rw [cell_set_ne _ _ _ _ _ (by omega)]; exact h.c37, fun i => by simpa using h.fz i⟩
theorem below_set {B : Nat} {w0 w : World} {g : Nat} (h : Below B w0 w) (lo : B ≤ g) (j : Nat) (v : Value) : Below B w0 (w.setCell ⟨g, j, none⟩ v) :=
  ⟨h.os, h.tape, h.output, by simpa [World.setCell] using h.size, fun k hk => (Below.heap_setCell w ⟨g, j, none⟩ v k (by rintro rfl; omega)).trans (h.block k hk)⟩
theorem grown_set {w0 w : World} {g : Nat} (h : w0.grownBy w (some g)) (j : Nat) (v : Value) : w0.grownBy (w.setCell ⟨g, j, none⟩ v) (some g) :=
  ⟨h.os, h.tape, h.output, by simpa [World.setCell] using h.size, fun k hi hne => (Below.heap_setCell w ⟨g, j, none⟩ v k (by rintro rfl; exact hne rfl)).trans (h.block k hi hne)⟩
theorem grown_refl (w : World) (g : Nat) : w.grownBy w (some g) := ⟨rfl, rfl, rfl, Nat.le_refl _, fun _ _ _ => rfl⟩
theorem grown_trans {w w1 w2 : World} {g : Nat} (h : w.grownBy w1 (some g)) (h2 : w1.grownBy w2 (some g)) : w.grownBy w2 (some g) :=
  ⟨h2.os.trans h.os, h2.tape.trans h.tape, h2.output.trans h.output, Nat.le_trans h.size h2.size, fun k hk hn => (h2.block k (Nat.lt_of_lt_of_le hk h.size) hn).trans (h.block k hk hn)⟩
theorem grown_below {w w' : World} {g : Nat} (h : Below w.heap.size w w') : w.grownBy w' (some g) := ⟨h.os, h.tape, h.output, h.size, fun k hk _ => h.block k hk⟩
/-- the lexer at place p of s, its token begun at st: unit u, kind k, flags f; the other cells as C says; the tables stand in w0 -/
structure Pl (w0 w : World) (g : Nat) (s : ByteArray) (C : Nat → Option Value) (p st : Nat) (u k f : Int) : Prop where
  at_ : At w g s p st
  c38 : w.cell? ⟨g, 38, none⟩ = some (.int .u16 u)
  c39 : w.cell? ⟨g, 39, none⟩ = some (.int .u8 k)
  c40 : w.cell? ⟨g, 40, none⟩ = some (.int .u8 f)
  oth : ∀ i, i < 32 ∨ i = 34 ∨ 40 < i → w.cell? ⟨g, i, none⟩ = C i
  tb : Lib.Utf8Tabs 0 1 w0
  be : Below w0.heap.size w0 w
  lo : w0.heap.size ≤ g
theorem Pl.tabs {w0 w : World} {g : Nat} {s : ByteArray} {C : Nat → Option Value} {p st : Nat} {u k f : Int} (h : Pl w0 w g s C p st u k f) : Lib.Utf8Tabs 0 1 w := tabs_below h.tb h.be
theorem Pl.keep {w0 w w' : World} {g : Nat} {s : ByteArray} {C : Nat → Option Value} {p st : Nat} {u k f : Int} (h : Pl w0 w g s C p st u k f) (hb : Below w.heap.size w w') : Pl w0 w' g s C p st u k f :=
  ⟨h.at_.keep hb, by rw [hb.cell h.at_.lt]; exact h.c38, by rw [hb.cell h.at_.lt]; exact h.c39, by rw [hb.cell h.at_.lt]; exact h.c40, fun i hi => by rw [hb.cell h.at_.lt]; exact h.oth i hi, h.tb, h.be.trans (hb.mono h.be.size), h.lo⟩
theorem Pl.drew {w0 w : World} {g : Nat} {s : ByteArray} {C : Nat → Option Value} {p st : Nat} {u k f : Int} (h : Pl w0 w g s C p st u k f) : Pl w0 w.drew g s C p st u k f :=
  ⟨CL.drew h.at_, h.c38, h.c39, h.c40, h.oth, h.tb, h.be.drew, h.lo⟩
theorem Pl.stepped {w0 w w' : World} {g : Nat} {s : ByteArray} {C : Nat → Option Value} {p st p' st' : Nat} {u k f : Int} (h : Pl w0 w g s C p st u k f) (hs : Stepped w w' g) (ha : At w' g s p' st') : Pl w0 w' g s C p' st' u k f :=
  ⟨ha, by rw [hs.cells _ (by omega) (by omega) (by omega) (by omega)]; exact h.c38, by rw [hs.cells _ (by omega) (by omega) (by omega) (by omega)]; exact h.c39, by rw [hs.cells _ (by omega) (by omega) (by omega) (by omega)]; exact h.c40,
   fun i hi => by rw [hs.cells _ (by omega) (by omega) (by omega) (by omega)]; exact h.oth i hi, h.tb, h.be.trans (stepped_below hs h.be.size h.lo), h.lo⟩
theorem Pl.set38 {w0 w : World} {g : Nat} {s : ByteArray} {C : Nat → Option Value} {p st : Nat} {u k f : Int} (h : Pl w0 w g s C p st u k f) (v : Int) : Pl w0 (w.setCell ⟨g, 38, none⟩ (.int .u16 v)) g s C p st v k f :=
  ⟨CL.setO h.at_ 38 (by omega) _, World.cell?_setCell_same _ _ _ h.c38, by rw [cell_set_ne _ _ _ _ _ (by omega)]; exact h.c39, by rw [cell_set_ne _ _ _ _ _ (by omega)]; exact h.c40, fun i hi => by rw [cell_set_ne _ _ _ _ _ (by omega)]; exact h.oth i hi, h.tb, below_set h.be h.lo _ _, h.lo⟩
theorem Pl.set39 {w0 w : World} {g : Nat} {s : ByteArray} {C : Nat → Option Value} {p st : Nat} {u k f : Int} (h : Pl w0 w g s C p st u k f) (v : Int) : Pl w0 (w.setCell ⟨g, 39, none⟩ (.int .u8 v)) g s C p st u v f :=
  ⟨CL.setO h.at_ 39 (by omega) _, by rw [cell_set_ne _ _ _ _ _ (by omega)]; exact h.c38, World.cell?_setCell_same _ _ _ h.c39, by rw [cell_set_ne _ _ _ _ _ (by omega)]; exact h.c40, fun i hi => by rw [cell_set_ne _ _ _ _ _ (by omega)]; exact h.oth i hi, h.tb, below_set h.be h.lo _ _, h.lo⟩
theorem Pl.set40 {w0 w : World} {g : Nat} {s : ByteArray} {C : Nat → Option Value} {p st : Nat} {u k f : Int} (h : Pl w0 w g s C p st u k f) (v : Int) : Pl w0 (w.setCell ⟨g, 40, none⟩ (.int .u8 v)) g s C p st u k v :=
  ⟨CL.setO h.at_ 40 (by omega) _, by rw [cell_set_ne _ _ _ _ _ (by omega)]; exact h.c38, by rw [cell_set_ne _ _ _ _ _ (by omega)]; exact h.c39, World.cell?_setCell_same _ _ _ h.c40, fun i hi => by rw [cell_set_ne _ _ _ _ _ (by omega)]; exact h.oth i hi, h.tb, below_set h.be h.lo _ _, h.lo⟩
/-- behind a call: the place, and of all else nothing but the lexer's block -/
def Go2 (w0 w w' : World) (g : Nat) (s : ByteArray) (C : Nat → Option Value) (p st : Nat) (u k f : Int) : Prop := Pl w0 w' g s C p st u k f ∧ w.grownBy w' (some g)
theorem Go2.trans {w0 w w1 w2 : World} {g : Nat} {s : ByteArray} {C : Nat → Option Value} {p st p' st' : Nat} {u k f u' k' f' : Int} (h : Go2 w0 w w1 g s C p st u k f) (h2 : Go2 w0 w1 w2 g s C p' st' u' k' f') : Go2 w0 w w2 g s C p' st' u' k' f' := ⟨h2.1, grown_trans h.2 h2.2⟩
theorem Go2.keep {w0 w w1 w2 : World} {g : Nat} {s : ByteArray} {C : Nat → Option Value} {p st : Nat} {u k f : Int} (h : Go2 w0 w w1 g s C p st u k f) (hb : Below w1.heap.size w1 w2) : Go2 w0 w w2 g s C p st u k f := ⟨h.1.keep hb, grown_trans h.2 (grown_below hb)⟩
theorem Pl.go {w0 w : World} {g : Nat} {s : ByteArray} {C : Nat → Option Value} {p st : Nat} {u k f : Int} (h : Pl w0 w g s C p st u k f) : Go2 w0 w w g s C p st u k f := ⟨h, grown_refl w g⟩
theorem Go2.drew {w0 w w1 : World} {g : Nat} {s : ByteArray} {C : Nat → Option Value} {p st : Nat} {u k f : Int} (h : Go2 w0 w w1 g s C p st u k f) : Go2 w0 w w1.drew g s C p st u k f := ⟨h.1.drew, ⟨h.2.os, h.2.tape, h.2.output, h.2.size, h.2.block⟩⟩
theorem Go2.set38 {w0 w w1 : World} {g : Nat} {s : ByteArray} {C : Nat → Option Value} {p st : Nat} {u k f : Int} (h : Go2 w0 w w1 g s C p st u k f) (v : Int) : Go2 w0 w (w1.setCell ⟨g, 38, none⟩ (.int .u16 v)) g s C p st v k f := ⟨h.1.set38 v, grown_set h.2 _ _⟩
theorem Go2.set39 {w0 w w1 : World} {g : Nat} {s : ByteArray} {C : Nat → Option Value} {p st : Nat} {u k f : Int} (h : Go2 w0 w w1 g s C p st u k f) (v : Int) : Go2 w0 w (w1.setCell ⟨g, 39, none⟩ (.int .u8 v)) g s C p st u v f := ⟨h.1.set39 v, grown_set h.2 _ _⟩
theorem Go2.set40 {w0 w w1 : World} {g : Nat} {s : ByteArray} {C : Nat → Option Value} {p st : Nat} {u k f : Int} (h : Go2 w0 w w1 g s C p st u k f) (v : Int) : Go2 w0 w (w1.setCell ⟨g, 40, none⟩ (.int .u8 v)) g s C p st u k v := ⟨h.1.set40 v, grown_set h.2 _ _⟩
theorem step_pl {w0 w : World} {g : Nat} {s : ByteArray} {C : Nat → Option Value} {p st : Nat} {u k f : Int} (h : Pl w0 w g s C p st u k f) (hp : p ≤ s.size) (hs : s.size ≤ 1048576) (hst : st ≤ p) :
    Calls Tryd.prog 54 #[.pointer (some ⟨g, 0, none⟩)] w fun e w' => e = .returned (.tuple #[]) ∧ Go2 w0 w w' g s C (p + wid s p) st u k f := by
  refine (step_at w g s p st h.at_ h.tabs hp hs hst).mono ?_
  rintro e w' ⟨rfl, ha, hst⟩
  exact ⟨rfl, h.stepped hst ha, hst.by_⟩
theorem step_pla {w0 w : World} {g : Nat} {s : ByteArray} {C : Nat → Option Value} {p st : Nat} {u k f : Int} (h : Pl w0 w g s C p st u k f) (hp : p < s.size) (hb : byt s p < 128) (hs : s.size ≤ 1048576) (hst : st ≤ p) :
    Calls Tryd.prog 54 #[.pointer (some ⟨g, 0, none⟩)] w fun e w' => e = .returned (.tuple #[]) ∧ Go2 w0 w w' g s C (p + 1) st u k f := by
  have := step_pl h (by omega) hs hst
  rw [wid_asc s p hp hb] at this
  exact this
/-- step at an ASCII code point -/
theorem step_plc {w0 w : World} {g : Nat} {s : ByteArray} {C : Nat → Option Value} {p st : Nat} {u k f : Int} (h : Pl w0 w g s C p st u k f) (hp : p ≤ s.size) (c : Int) (e : cpOf s p = c) (h0 : 0 ≤ c) (h1 : c < 128) (hs : s.size ≤ 1048576) (hst : st ≤ p) :
    Calls Tryd.prog 54 #[.pointer (some ⟨g, 0, none⟩)] w fun e w' => e = .returned (.tuple #[]) ∧ Go2 w0 w w' g s C (p + 1) st u k f := by
  obtain ⟨a, b⟩ := cp_is s p hp c.toNat (by omega) (by omega)
  exact step_pla h a (by omega) hs hst
def digC (b : Nat) : Bool := decide (48 ≤ b ∧ b ≤ 57)
def wsC (b : Nat) : Bool := decide (b = 32 ∨ b = 9 ∨ b = 10 ∨ b = 13 ∨ b = 12)
def dgE (s : ByteArray) (p : Nat) : Nat := run digC s p
def wslA (s : ByteArray) (p : Nat) : Bool := wslB s (p + wid s p) (cpOf s p)
def wsnA (s : ByteArray) (p : Nat) : Bool := wsnB s (p + wid s p) (cpOf s p)
def sgE (s : ByteArray) (p : Nat) : Nat := if byt s p = 43 ∨ byt s p = 45 then p + 1 else p
def n1 (s : ByteArray) (p : Nat) : Nat := dgE s (sgE s p)
def dotE (s : ByteArray) (b : Nat) : Nat := if byt s b = 46 then dgE s (b + 1) else b
def expB (s : ByteArray) (c : Nat) : Bool := decide (byt s c = 101 ∨ byt s c = 69) && (decide (c + 1 < s.size) && digC (if (byt s (c + 1) = 43 ∨ byt s (c + 1) = 45) ∧ c + 2 < s.size then byt s (c + 2) else byt s (c + 1)))
def expE (s : ByteArray) (c : Nat) : Nat := if expB s c = true then dgE s (sgE s (c + 1)) else c
def numE (s : ByteArray) (p : Nat) : Nat := expE s (dotE s (n1 s p))
/-- kind, end, unit offset, flags -/
structure Tok where
  k : Nat
  e : Nat
  u : Nat
  f : Nat
def numT (s : ByteArray) (p : Nat) : Tok :=
  if wslA s (numE s p) = true then ⟨26, nmE s (numE s p), (numE s p - p) % 65536, 0⟩
  else if byt s (numE s p) = 37 then ⟨34, numE s p + 1, 0, 0⟩ else ⟨30, numE s p, 0, 0⟩
def idT (s : ByteArray) (p : Nat) : Tok := if byt s (nmE s p) = 40 then ⟨27, nmE s p + 1, 0, 0⟩ else ⟨29, nmE s p, 0, 0⟩
def punK (b : Nat) : Option Nat :=
  if b = 40 then some 33 else if b = 41 then some 8 else if b = 91 then some 32 else if b = 93 then some 7 else if b = 123 then some 31 else if b = 125 then some 6
  else if b = 44 then some 10 else if b = 58 then some 9 else if b = 59 then some 35 else if b = 62 then some 20 else if b = 126 then some 25 else if b = 38 then some 12
  else if b = 42 then some 13 else if b = 124 then some 14 else if b = 33 then some 19 else if b = 61 then some 18 else if b = 94 then some 15 else if b = 36 then some 16 else none
def tok (s : ByteArray) (p : Nat) : Tok :=
  if s.size ≤ p then ⟨0, p, 0, 0⟩
  else if wsC (byt s p) = true then ⟨38, run wsC s p, 0, 0⟩
  else match punK (byt s p) with
  | some k => ⟨k, p + 1, 0, 0⟩
  | none =>
    if byt s p = 35 then (if ncB (cpOf s (p + 1)) = true then ⟨28, nmE s (p + 1), 0, if wslA s (p + 1) = true then 1 else 0⟩ else ⟨11, p + 1, 0, 0⟩)
    else if byt s p = 64 then (if wslA s (p + 1) = true then ⟨1, nmE s (p + 1), 0, 0⟩ else ⟨11, p + 1, 0, 0⟩)
    else if byt s p = 43 then (if wsnA s p = true then numT s p else ⟨23, p + 1, 0, 0⟩)
    else if byt s p = 46 then (if wsnA s p = true then numT s p else ⟨17, p + 1, 0, 0⟩)
    else if byt s p = 45 then (if wsnA s p = true then numT s p else if byt s (p + 1) = 45 ∧ byt s (p + 2) = 62 then ⟨4, p + 3, 0, 0⟩ else if wslA s p = true then idT s p else ⟨22, p + 1, 0, 0⟩)
    else if byt s p = 60 then (if byt s (p + 1) = 33 ∧ byt s (p + 2) = 45 ∧ byt s (p + 3) = 45 then ⟨5, p + 4, 0, 0⟩ else ⟨21, p + 1, 0, 0⟩)
    else if digC (byt s p) = true then numT s p
    else if nsB (byt s p : Nat) = true then idT s p
    else ⟨11, p + 1, 0, 0⟩
end Go.Proofs.YtocciemgdikmjaaDoor
