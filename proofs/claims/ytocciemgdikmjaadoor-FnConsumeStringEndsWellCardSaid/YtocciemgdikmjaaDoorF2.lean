/-
  The code point at a place, by its first byte; a fresh lexer; isValidEscape; the walk of its law.
-/
import Derived.Test.YtocciemgdikmjaaDoorF1
namespace Go.Proofs.YtocciemgdikmjaaDoor
open Go.ChangeShapes Go.WideShapes Go.ChangeAt Go.RowKit
open Go.Lib (decodeN decode_at decodeGo)
set_option linter.unusedVariables false
theorem dec_first (y : ByteArray) (h : 0 < y.size) : ((y.get! 0).toNat < 128 → decodeGo y = ((y.get! 0).toNat, 1)) ∧ (128 ≤ (y.get! 0).toNat → 128 ≤ (decodeGo y).1) ∧ 1 ≤ (decodeGo y).2 := by
  unfold decodeGo
  rw [if_neg (by omega), decode_at]
  simp only [Nat.sub_zero, Nat.zero_add]
  generalize (y.get! 0).toNat = b0
  generalize (y.get! 1).toNat = b1
  generalize (y.get! 2).toNat = b2
  generalize (y.get! 3).toNat = b3
  refine ⟨fun a0 => by unfold decodeN; rw [if_pos a0], fun a0 => ?_, ?_⟩
  · unfold decodeN
    rw [if_neg (by omega)]
    repeat' split
    all_goals (simp; try omega)
  · unfold decodeN
    repeat' split
    all_goals simp
theorem get_ext (s : ByteArray) (p : Nat) (h : p < s.size) : (s.extract p s.size).get! 0 = s[p]'h := by
  have h1 : 0 < (s.extract p s.size).size := by simp; omega
  have e1 : (s.extract p s.size).get! 0 = (s.extract p s.size)[0]'h1 := by
    simp only [ByteArray.get!, ByteArray.getElem_eq_getElem_data]
    exact getElem!_pos (s.extract p s.size).data 0 (by simpa using h1)
  rw [e1, ByteArray.getElem_extract]
  simp
/-- the rune at place p, by its first byte -/
theorem at_byte (s : ByteArray) (p : Nat) (h : p < s.size) : ((s[p]'h).toNat < 128 → decodeGo (s.extract p s.size) = ((s[p]'h).toNat, 1)) ∧ (128 ≤ (s[p]'h).toNat → 128 ≤ (decodeGo (s.extract p s.size)).1) ∧ 1 ≤ (decodeGo (s.extract p s.size)).2 := by
  have := dec_first (s.extract p s.size) (by simp; omega)
  rw [get_ext s p h] at this
  exact this
theorem at_end (s : ByteArray) : decodeGo (s.extract s.size s.size) = (65533, 0) := by
  unfold decodeGo; rw [if_pos (by simp)]
theorem cp_ascii (s : ByteArray) (p : Nat) (h : p < s.size) (hb : (s[p]'h).toNat < 128) : cpOf s p = (s[p]'h).toNat := by
  unfold cpOf; rw [(at_byte s p h).1 hb]; simp
theorem cp_high (s : ByteArray) (p : Nat) (h : p < s.size) (hb : 128 ≤ (s[p]'h).toNat) : 128 ≤ cpOf s p := by
  have h1 := (at_byte s p h).2.1 hb
  have h2 := (at_byte s p h).2.2
  unfold cpOf; rw [if_neg (by omega)]; omega
theorem cp_end (s : ByteArray) : cpOf s s.size = -1 := by
  unfold cpOf; rw [at_end]; simp
/-- is the rune at p a newline? as its first byte is; none is at the end -/
def nlAt (s : ByteArray) (p : Nat) : Bool := nlB (decodeGo (s.extract p s.size)).1
theorem nlAt_end (s : ByteArray) : nlAt s s.size = false := by unfold nlAt; rw [at_end]; rfl
theorem nlAt_byte (s : ByteArray) (p : Nat) (h : p < s.size) : nlAt s p = nlB (s[p]'h).toNat := by
  unfold nlAt
  by_cases hb : (s[p]'h).toNat < 128
  · rw [(at_byte s p h).1 hb]
  · have h1 := (at_byte s p h).2.1 (by omega)
    unfold nlB
    rw [Bool.eq_iff_iff]; simp; omega
noncomputable def srcC (s : ByteArray) : Array Value := (Tryd.prog.built 69 [(2, .string s)]).getD #[]
noncomputable def lexC (s : ByteArray) (p : Int) : Array Value := (Tryd.prog.built 73 [(2, .agg (srcC s)), (8, .int .i64 p)]).getD #[]
theorem lexC_10 (s : ByteArray) (p : Int) : (lexC s p)[10]? = some (.string s) := by kernel_rfl
theorem lexC_32 (s : ByteArray) (p : Int) : (lexC s p)[32]? = some (.int .i64 0) := by kernel_rfl
theorem lexC_33 (s : ByteArray) (p : Int) : (lexC s p)[33]? = some (.int .i64 p) := by kernel_rfl
theorem lexC_35 (s : ByteArray) (p : Int) : (lexC s p)[35]? = some (.int .i32 0) := by kernel_rfl
theorem lexC_36 (s : ByteArray) (p : Int) : (lexC s p)[36]? = some (.int .i32 0) := by kernel_rfl
theorem lexC_37 (s : ByteArray) (p : Int) : (lexC s p)[37]? = some (.int .i32 0) := by kernel_rfl
theorem CL.new (w : World) (s : ByteArray) (p : Int) : CL (w.alloc (.cells (lexC s p) 73)) w.heap.size s 0 p 0 0 0 := by
  have h : (w.alloc (.cells (lexC s p) 73)).heap[w.heap.size]? = some (.cells (lexC s p) 73) := by
    show (w.heap.push _)[w.heap.size]? = _
    simp
  have hc : ∀ i, (w.alloc (.cells (lexC s p) 73)).cell? ⟨w.heap.size, i, none⟩ = (lexC s p)[i]? := fun i => by
    simp only [World.cell?, h]; rfl
  exact ⟨by simp, by rw [hc, lexC_10], by rw [hc, lexC_32], by rw [hc, lexC_33], by rw [hc, lexC_35], by rw [hc, lexC_36], by rw [hc, lexC_37], fun i => by simp only [World.frozen?, h]; simp⟩
/-- what isValidEscape answers -/
def iveB (s : ByteArray) (cur : Nat) (cp : Int) : Bool := (cp == 92) && !nlAt s cur
theorem ive_any (w : World) (g : Nat) (s : ByteArray) (nl : Int) (cur : Nat) (cp st ln : Int) (h : CL w g s nl cur cp st ln) (hT : Lib.Utf8Tabs 0 1 w) (hc : cur ≤ s.size) (hs : s.size ≤ 1048576) :
    Calls Tryd.prog 77 #[.pointer (some ⟨g, 0, none⟩)] w fun e w' => e = .returned (.bool (iveB s cur cp)) ∧ Below w.heap.size w w' := by
  obtain ⟨l, c10, c32, c33, c35, c36, c37, fz⟩ := id h
  by_cases hcp : cp = 92
  · subst hcp
    obtain ⟨x, hx⟩ : ∃ x, s.extract cur s.size = x := ⟨_, rfl⟩
    obtain ⟨C, hC⟩ : ∃ C, (decodeGo x).1 = C := ⟨_, rfl⟩
    obtain ⟨K, hK⟩ : ∃ K, (decodeGo x).2 = K := ⟨_, rfl⟩
    have hr : iveB s cur 92 = !nlB C := by unfold iveB nlAt; rw [hx, hC]; rfl
    have HX := Lib.hid hx; have HC := Lib.hid hC; have HK := Lib.hid hK; have HR := Lib.hid hr
    clear hx hC hK hr h
    go_enter Tryd.func77, Tryd.ntmps77
    go_wp2
    go_region_with ((go_at_call 69; rw [HX.out]; refine (dec_any x _ (tabs_drew hT) C K HC.out HK.out).mono ?_; rintro e w1 ⟨rfl, hb1⟩; have HB := Lib.hid ((Below.refl w.heap.size w).drew.trans hb1); clear hb1))
    all_goals
      go_wp2_with fail
      refine (nl_any _ _).mono ?_
      rintro e w2 ⟨rfl, rfl⟩
      go_wp2_with fail
      go_ret
      exact ⟨ret_bool HR.out.symm, HB.out⟩
  · have d1 : (cp != 92) = true := by simp [hcp]
    have HR := Lib.hid (show iveB s cur cp = false by unfold iveB; simp [hcp])
    go_enter Tryd.func77, Tryd.ntmps77
    go_wp2
    go_ret
    exact ⟨ret_bool HR.out.symm, Below.refl _ _⟩
