/-
  The small grammar of FnTokenizeMatchesSmallGrammar: its tokens are the plain tokens.
-/
import Derived.Test.YtocciemgdikmjaaDoorC5
namespace Go.Proofs.YtocciemgdikmjaaDoor
open Go.Lib (decodeN decode_at decodeGo)
set_option linter.unusedVariables false
def grB (b : Nat) : Bool := decide (b = 97 ∨ b = 98 ∨ b = 48 ∨ b = 49 ∨ b = 32 ∨ b = 10 ∨ b = 123 ∨ b = 125 ∨ b = 58 ∨ b = 59 ∨ b = 44 ∨ b = 37 ∨ b = 46 ∨ b = 35 ∨ b = 64)
def gwC (b : Nat) : Bool := decide (b = 32 ∨ b = 10)
def glC (b : Nat) : Bool := decide (b = 97 ∨ b = 98)
def gnC (b : Nat) : Bool := decide (b = 97 ∨ b = 98 ∨ b = 48 ∨ b = 49)
def Gram (s : ByteArray) : Prop := ∀ i, i < s.size → grB (byt s i) = true
def gnum (s : ByteArray) (p q : Nat) : Tok :=
  if glC (byt s q) = true then ⟨26, run gnC s q, q - p, 0⟩ else if byt s q = 37 then ⟨34, q + 1, 0, 0⟩ else ⟨30, q, 0, 0⟩
def gtok (s : ByteArray) (p : Nat) : Tok :=
  if gwC (byt s p) = true then ⟨38, run gwC s (p + 1), 0, 0⟩
  else if byt s p = 123 then ⟨31, p + 1, 0, 0⟩
  else if byt s p = 125 then ⟨6, p + 1, 0, 0⟩
  else if byt s p = 58 then ⟨9, p + 1, 0, 0⟩
  else if byt s p = 59 then ⟨35, p + 1, 0, 0⟩
  else if byt s p = 44 then ⟨10, p + 1, 0, 0⟩
  else if byt s p = 37 then ⟨11, p + 1, 0, 0⟩
  else if glC (byt s p) = true then ⟨29, run gnC s (p + 1), 0, 0⟩
  else if byt s p = 35 then (if gnC (byt s (p + 1)) = true then ⟨28, run gnC s (p + 1), 0, if glC (byt s (p + 1)) = true then 1 else 0⟩ else ⟨11, p + 1, 0, 0⟩)
  else if byt s p = 64 then (if glC (byt s (p + 1)) = true then ⟨1, run gnC s (p + 1), 0, 0⟩ else ⟨11, p + 1, 0, 0⟩)
  else if digC (byt s p) = true ∨ (byt s p = 46 ∧ digC (byt s (p + 1)) = true) then gnum s p (dotE s (run digC s p))
  else ⟨17, p + 1, 0, 0⟩
theorem gr_or (b : Nat) (h : grB b = true) : b = 97 ∨ b = 98 ∨ b = 48 ∨ b = 49 ∨ b = 32 ∨ b = 10 ∨ b = 123 ∨ b = 125 ∨ b = 58 ∨ b = 59 ∨ b = 44 ∨ b = 37 ∨ b = 46 ∨ b = 35 ∨ b = 64 := by unfold grB at h; simpa using h
theorem gr_nc (b : Nat) (h : grB b = true) : ncB (b : Int) = gnC b ∧ nsB (b : Int) = glC b ∧ wsC b = gwC b := by
  rcases gr_or b h with rfl | rfl | rfl | rfl | rfl | rfl | rfl | rfl | rfl | rfl | rfl | rfl | rfl | rfl | rfl <;> decide
theorem Gram.dom {s : ByteArray} (h : Gram s) : Dom s := fun i hi => by
  have := gr_or _ (h i hi); omega
theorem gr_nmE {s : ByteArray} (h : Gram s) (p : Nat) (hp : p ≤ s.size) : nmE s p = run gnC s p :=
  run_congr _ _ s p hp (fun j hj => (gr_nc _ (h j hj)).1)
theorem gr_end (s : ByteArray) (p : Nat) (h : s.size ≤ p) : glC (byt s p) = false ∧ gnC (byt s p) = false := by rw [byt_end s p h]; decide
theorem gr_wsl {s : ByteArray} (h : Gram s) (p : Nat) (hp : p ≤ s.size) : wslA s p = glC (byt s p) := by
  by_cases hq : p < s.size
  · have hn : nsB (cpOf s p) = glC (byt s p) := by rw [ns_cp s p hq]; exact (gr_nc _ (h p hq)).2.1
    unfold wslA wslB
    cases hl : glC (byt s p) with
    | true => rw [hn, hl]; simp
    | false =>
      rw [hn, hl, if_neg (by simp)]
      have h45 : cpOf s p ≠ 45 := fun e => by
        have := cp_is s p hp 45 (by omega) e
        have h2 := gr_or _ (h p hq); omega
      rw [if_neg h45]
      exact ive_no h.dom p _ hp
  · obtain rfl : p = s.size := by omega
    rw [(gr_end s _ (Nat.le_refl _)).1]
    unfold wslA wslB
    rw [ns_end, if_neg (by simp), cp_end, if_neg (by decide)]; rfl
theorem gr_ncp {s : ByteArray} (h : Gram s) (p : Nat) (hp : p ≤ s.size) : ncB (cpOf s p) = gnC (byt s p) := by
  by_cases hq : p < s.size
  · rw [nc_cp s p hq]; exact (gr_nc _ (h p hq)).1
  · obtain rfl : p = s.size := by omega
    rw [(gr_end s _ (Nat.le_refl _)).2, nc_end]
theorem gr_byt {s : ByteArray} (h : Gram s) (p : Nat) : byt s p = 0 ∨ grB (byt s p) = true := by
  by_cases hq : p < s.size
  · exact Or.inr (h p hq)
  · exact Or.inl (byt_end s p (by omega))
theorem gr_num {s : ByteArray} (h : Gram s) (hs : s.size ≤ 60000) (p : Nat) (hp : p < s.size) : numT s p = gnum s p (dotE s (run digC s p)) := by
  have hb := gr_or _ (h p hp)
  have e1 : sgE s p = p := by unfold sgE; rw [if_neg (by omega)]
  have e2 : n1 s p = run digC s p := by unfold n1 dgE; rw [e1]
  have hl := n1_ge s p (by omega)
  have hd := dotE_ge s (n1 s p) hl.2
  have e3 : numE s p = dotE s (run digC s p) := by
    unfold numE expE
    rw [e2] at *
    rw [if_neg]
    unfold expB
    have hx := gr_byt h (dotE s (run digC s p))
    have : ¬ (byt s (dotE s (run digC s p)) = 101 ∨ byt s (dotE s (run digC s p)) = 69) := by
      rcases hx with hx | hx
      · omega
      · have := gr_or _ hx; omega
    simp [this]
  rw [e2] at hd
  unfold numT gnum
  rw [e3, gr_wsl h _ hd.2, gr_nmE h _ hd.2]
  by_cases hg : glC (byt s (dotE s (run digC s p))) = true
  · rw [if_pos hg, if_pos hg]
    congr 1
    omega
  · rw [if_neg hg, if_neg hg]
theorem gr_tok {s : ByteArray} (h : Gram s) (hs : s.size ≤ 60000) (p : Nat) (hp : p < s.size) : gtok s p = tok s p := by
  unfold gtok tok
  rw [if_neg (show ¬ s.size ≤ p by omega)]
  have hb := gr_or _ (h p hp)
  have hc := gr_nc _ (h p hp)
  rw [hc.2.2]
  by_cases hw : gwC (byt s p) = true
  · rw [if_pos hw, if_pos hw]
    congr 1
    rw [run_congr wsC gwC s p (by omega) (fun j hj => (gr_nc _ (h j hj)).2.2), run_go gwC s p hp hw]
  rw [if_neg hw, if_neg hw]
  have hw2 : ¬ (byt s p = 32 ∨ byt s p = 10) := by unfold gwC at hw; simpa using hw
  by_cases h1 : byt s p = 123
  · rw [if_pos h1, show punK (byt s p) = some 31 by rw [h1]; rfl]
  rw [if_neg h1]
  by_cases h2 : byt s p = 125
  · rw [if_pos h2, show punK (byt s p) = some 6 by rw [h2]; rfl]
  rw [if_neg h2]
  by_cases h3 : byt s p = 58
  · rw [if_pos h3, show punK (byt s p) = some 9 by rw [h3]; rfl]
  rw [if_neg h3]
  by_cases h4 : byt s p = 59
  · rw [if_pos h4, show punK (byt s p) = some 35 by rw [h4]; rfl]
  rw [if_neg h4]
  by_cases h5 : byt s p = 44
  · rw [if_pos h5, show punK (byt s p) = some 10 by rw [h5]; rfl]
  rw [if_neg h5]
  by_cases h6 : byt s p = 37
  · rw [if_pos h6, show punK (byt s p) = none by rw [h6]; rfl]
    simp only
    rw [if_neg (show ¬ byt s p = 35 by omega), if_neg (show ¬ byt s p = 64 by omega), if_neg (show ¬ byt s p = 43 by omega), if_neg (show ¬ byt s p = 46 by omega), if_neg (show ¬ byt s p = 45 by omega), if_neg (show ¬ byt s p = 60 by omega), if_neg (show ¬ digC (byt s p) = true by rw [h6]; decide), if_neg (show ¬ nsB ((byt s p : Nat) : Int) = true by rw [h6]; decide)]
  rw [if_neg h6]
  have hpn : punK (byt s p) = none := by
    have : byt s p = 97 ∨ byt s p = 98 ∨ byt s p = 48 ∨ byt s p = 49 ∨ byt s p = 46 ∨ byt s p = 35 ∨ byt s p = 64 := by omega
    rcases this with e | e | e | e | e | e | e <;> rw [e] <;> rfl
  rw [hpn]
  simp only
  by_cases hl : glC (byt s p) = true
  · rw [if_pos hl]
    have hl2 : byt s p = 97 ∨ byt s p = 98 := by unfold glC at hl; simpa using hl
    rw [if_neg (show ¬ byt s p = 35 by omega), if_neg (show ¬ byt s p = 64 by omega), if_neg (show ¬ byt s p = 43 by omega), if_neg (show ¬ byt s p = 46 by omega), if_neg (show ¬ byt s p = 45 by omega), if_neg (show ¬ byt s p = 60 by omega), if_neg (show ¬ digC (byt s p) = true by unfold digC; simp; omega), if_pos (show nsB ((byt s p : Nat) : Int) = true by rw [hc.2.1]; exact hl)]
    have hg : gnC (byt s p) = true := by unfold gnC; simp; omega
    unfold idT
    rw [gr_nmE h p (by omega), run_go gnC s p hp hg, if_neg]
    intro e
    have hx := gr_byt h (run gnC s (p + 1))
    rcases hx with hx | hx
    · omega
    · have := gr_or _ hx; omega
  rw [if_neg hl]
  have hl2 : ¬ (byt s p = 97 ∨ byt s p = 98) := by unfold glC at hl; simpa using hl
  by_cases h35 : byt s p = 35
  · rw [if_pos h35, if_pos h35, gr_ncp h (p + 1) (by omega), gr_wsl h (p + 1) (by omega), gr_nmE h (p + 1) (by omega)]
  rw [if_neg h35, if_neg h35]
  by_cases h64 : byt s p = 64
  · rw [if_pos h64, if_pos h64, gr_wsl h (p + 1) (by omega), gr_nmE h (p + 1) (by omega)]
  rw [if_neg h64, if_neg h64, if_neg (show ¬ byt s p = 43 by omega)]
  rw [wsn_sn s p hp, gr_num h hs p hp]
  by_cases h46 : byt s p = 46
  · have hd : digC (byt s p) = false := by rw [h46]; decide
    rw [if_pos h46]
    have hsn : snB s p = digC (byt s (p + 1)) := by unfold snB; rw [hd]; simp [h46]
    rw [hsn]
    by_cases hx : digC (byt s (p + 1)) = true
    · rw [if_pos (Or.inr ⟨h46, hx⟩), if_pos hx]
    · rw [if_neg (by rw [hd]; simp [h46, hx]), if_neg hx]
  · rw [if_neg h46, if_neg (show ¬ byt s p = 45 by omega), if_neg (show ¬ byt s p = 60 by omega)]
    have hd : digC (byt s p) = true := by unfold digC; simp; omega
    rw [if_pos (Or.inl hd), if_pos hd]
end Go.Proofs.YtocciemgdikmjaaDoor
