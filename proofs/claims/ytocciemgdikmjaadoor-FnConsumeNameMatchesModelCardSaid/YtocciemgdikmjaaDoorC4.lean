/-
  What the plain tokens are like: they are not empty, and which are numbers.
-/
import Derived.Test.YtocciemgdikmjaaDoorC3
namespace Go.Proofs.YtocciemgdikmjaaDoor
open Go.Lib (decodeN decode_at decodeGo)
set_option linter.unusedVariables false
/-- no slash, backslash, quote -/
def Dom (s : ByteArray) : Prop := ∀ i, i < s.size → byt s i ≠ 47 ∧ byt s i ≠ 92 ∧ byt s i ≠ 34 ∧ byt s i ≠ 39
/-- no url( in any case -/
def NoUrl (s : ByteArray) : Prop := ∀ i, i + 3 < s.size → ¬ ((byt s i = 117 ∨ byt s i = 85) ∧ (byt s (i + 1) = 114 ∨ byt s (i + 1) = 82) ∧ (byt s (i + 2) = 108 ∨ byt s (i + 2) = 76) ∧ byt s (i + 3) = 40)
theorem no92 {s : ByteArray} (h : Dom s) (p : Nat) (hp : p ≤ s.size) : cpOf s p ≠ 92 := by
  intro e
  obtain ⟨a, b⟩ := cp_is s p hp 92 (by omega) e
  exact (h p a).2.1 b
theorem ive_no {s : ByteArray} (h : Dom s) (p q : Nat) (hp : p ≤ s.size) : iveB s q (cpOf s p) = false := by
  unfold iveB
  have := no92 h p hp
  have e : (cpOf s p == 92) = false := by simp [this]
  rw [e]; rfl
theorem byt_lt_size (s : ByteArray) (p : Nat) (h : byt s p ≠ 0) : p < s.size := by
  by_cases hp : p < s.size
  · exact hp
  · exact absurd (byt_end s p (by omega)) h
theorem dgE_ge (s : ByteArray) (p : Nat) (hp : p ≤ s.size) : p ≤ dgE s p ∧ dgE s p ≤ s.size := ⟨run_ge _ s p hp, run_le _ s p hp⟩
theorem sgE_ge (s : ByteArray) (p : Nat) (hp : p ≤ s.size) : p ≤ sgE s p ∧ sgE s p ≤ s.size ∧ sgE s p ≤ p + 1 := by
  unfold sgE
  split
  · have := byt_lt_size s p (by omega); omega
  · omega
theorem n1_ge (s : ByteArray) (p : Nat) (hp : p ≤ s.size) : sgE s p ≤ n1 s p ∧ n1 s p ≤ s.size := by
  have h := sgE_ge s p hp
  exact dgE_ge s _ h.2.1
theorem dotE_ge (s : ByteArray) (b : Nat) (hb : b ≤ s.size) : b ≤ dotE s b ∧ dotE s b ≤ s.size := by
  unfold dotE
  split
  · have h1 := byt_lt_size s b (by omega)
    have h := dgE_ge s (b + 1) (by omega); omega
  · omega
theorem expE_ge (s : ByteArray) (c : Nat) (hc : c ≤ s.size) : c ≤ expE s c ∧ expE s c ≤ s.size := by
  unfold expE
  split
  · rename_i h
    have h1 : c + 1 < s.size := by unfold expB at h; simp at h; omega
    have h2 := sgE_ge s (c + 1) (by omega)
    have h3 := dgE_ge s (sgE s (c + 1)) h2.2.1
    omega
  · omega
theorem numE_ge (s : ByteArray) (p : Nat) (hp : p ≤ s.size) : sgE s p ≤ numE s p ∧ n1 s p ≤ numE s p ∧ dotE s (n1 s p) ≤ numE s p ∧ numE s p ≤ s.size := by
  have h1 := n1_ge s p hp
  have h2 := dotE_ge s (n1 s p) h1.2
  have h3 := expE_ge s (dotE s (n1 s p)) h2.2
  unfold numE
  omega
theorem nmE_ge (s : ByteArray) (p : Nat) (hp : p ≤ s.size) : p ≤ nmE s p ∧ nmE s p ≤ s.size := ⟨run_ge _ s p hp, run_le _ s p hp⟩
theorem nmE_pos (s : ByteArray) (p : Nat) (hp : p < s.size) (h : ncB (byt s p : Nat) = true) : p + 1 ≤ nmE s p := run_pos _ s p hp h
/-- an identifier begins with a name rune, where no backslash stands -/
theorem wsl_nc {s : ByteArray} (hD : Dom s) (p : Nat) (hp : p ≤ s.size) (h : wslA s p = true) : p < s.size ∧ ncB (byt s p : Nat) = true := by
  have hc : ncB (cpOf s p) = true := by
    unfold wslA wslB at h
    unfold ncB
    by_cases h1 : nsB (cpOf s p) = true
    · rw [h1]; rfl
    · rw [if_neg h1] at h
      by_cases h2 : cpOf s p = 45
      · simp [h2]
      · rw [if_neg h2, ive_no hD p _ hp] at h; cases h
  by_cases hq : p < s.size
  · exact ⟨hq, by rw [← nc_cp s p hq]; exact hc⟩
  · obtain rfl : p = s.size := by omega
    rw [nc_end] at hc; cases hc
/-- does a number start here? by the bytes -/
def snB (s : ByteArray) (p : Nat) : Bool :=
  digC (byt s p) || (decide (byt s p = 46) && digC (byt s (p + 1))) || (decide (byt s p = 43 ∨ byt s p = 45) && (digC (byt s (p + 1)) || (decide (byt s (p + 1) = 46) && digC (byt s (p + 2)))))
theorem digC_end (s : ByteArray) (p : Nat) (h : digC (byt s p) = true) : p < s.size := byt_lt_size s p (by unfold digC at h; simp at h; omega)
theorem digB_C (b : Nat) : digB (b : Int) = digC b := by unfold digB digC; rw [Bool.eq_iff_iff]; simp; omega
theorem wsn_sn (s : ByteArray) (p : Nat) (hp : p < s.size) : wsnA s p = snB s p := by
  unfold wsnA snB wsnB
  by_cases hb : byt s p < 128
  · rw [cp_asc s p hp hb, wid_asc s p hp hb, digB_C]
    by_cases h1 : digC (byt s p) = true
    · rw [if_pos h1, h1]; simp
    · rw [if_neg h1]
      have h1' : digC (byt s p) = false := by simpa using h1
      rw [h1']
      by_cases h2 : byt s p = 46
      · rw [if_pos (by omega)]
        by_cases h3 : p + 1 < s.size
        · rw [dif_pos h3, byt_at, digB_C]; simp [h2]
        · rw [dif_neg h3]
          have := byt_end s (p + 1) (by omega)
          simp [h2, this, digC]
      · rw [if_neg (by omega)]
        by_cases h4 : byt s p = 43 ∨ byt s p = 45
        · rw [if_pos (by omega)]
          by_cases h3 : p + 1 < s.size
          · rw [dif_pos h3, byt_at, digB_C]
            by_cases h5 : digC (byt s (p + 1)) = true
            · rw [if_pos h5]; simp [h4, h5]
            · rw [if_neg h5]
              have h5' : digC (byt s (p + 1)) = false := by simpa using h5
              by_cases h6 : byt s (p + 1) = 46
              · rw [if_pos h6]
                by_cases h7 : p + 1 + 1 < s.size
                · rw [dif_pos h7, byt_at, digB_C]; simp [h4, h2, h6, show digC 46 = false from by decide]
                · rw [dif_neg h7]
                  have := byt_end s (p + 2) (by omega)
                  simp [h2, this, h5', show digC 0 = false from by decide]
              · rw [if_neg h6]; simp [h2, h5', h6]
          · rw [dif_neg h3]
            have e1 := byt_end s (p + 1) (by omega)
            have e2 := byt_end s (p + 2) (by omega)
            simp [h2, e1, e2, digC]
        · rw [if_neg (by omega)]; simp [h2, h4]
  · have h := cp_hi s p hp (by omega)
    have h1 : digB (cpOf s p) = false := by unfold digB; simp; omega
    rw [h1, if_neg (by simp), if_neg (by omega), if_neg (by omega)]
    have h2 : digC (byt s p) = false := by unfold digC; simp; omega
    rw [h2]
    have h3 : ¬ (byt s p = 46) := by omega
    have h4 : ¬ (byt s p = 43 ∨ byt s p = 45) := by omega
    simp [h3, h4]
theorem num_pos (s : ByteArray) (p : Nat) (hp : p < s.size) (h : snB s p = true) : p < numE s p := by
  have hg := numE_ge s p (by omega)
  have hs := sgE_ge s p (by omega)
  by_cases h1 : digC (byt s p) = true
  · have hb : 48 ≤ byt s p ∧ byt s p ≤ 57 := by unfold digC at h1; simpa using h1
    have e : sgE s p = p := by unfold sgE; rw [if_neg (by omega)]
    have h2 : p + 1 ≤ n1 s p := by unfold n1; rw [e]; exact run_pos _ s p hp h1
    omega
  · by_cases h4 : byt s p = 43 ∨ byt s p = 45
    · have e : sgE s p = p + 1 := by unfold sgE; rw [if_pos h4]
      omega
    · have h2 : byt s p = 46 := by
        have h1' : digC (byt s p) = false := by simpa using h1
        unfold snB at h; rw [h1'] at h; simp [h4] at h; exact h.1
      have e : sgE s p = p := by unfold sgE; rw [if_neg h4]
      have e1 : n1 s p = p := by unfold n1; rw [e]; exact run_stop _ s p (fun _ => by simpa using h1)
      have e2 : p + 1 ≤ dotE s (n1 s p) := by
        rw [e1]; unfold dotE; rw [if_pos h2]; exact (dgE_ge s (p + 1) (by omega)).1
      omega
/-- what is known of a token -/
structure Okt (s : ByteArray) (p : Nat) (t : Tok) : Prop where
  e1 : p + 1 ≤ t.e
  e2 : t.e ≤ s.size
  k0 : t.k ≠ 0
  k1 : t.k ≤ 38
  fl : if t.k = 28 then t.f ≤ 1 else t.f = 0
  un : if t.k = 26 then (t.e - p ≤ 65535 → 1 ≤ t.u ∧ t.u < t.e - p) ∧ t.u < 65536 else t.u = 0
  nu : (t.k = 26 ∨ t.k = 30 ∨ t.k = 34) ↔ snB s p = true
theorem num_ok {s : ByteArray} (hD : Dom s) (p : Nat) (hp : p < s.size) (h : snB s p = true) : Okt s p (numT s p) := by
  have h1 := num_pos s p hp h
  have h2 := (numE_ge s p (by omega)).2.2.2
  unfold numT
  by_cases hw : wslA s (numE s p) = true
  · rw [if_pos hw]
    obtain ⟨a, b⟩ := wsl_nc hD _ h2 hw
    have h3 := nmE_pos s _ a b
    have h4 := nmE_ge s (numE s p) h2
    exact ⟨by show p + 1 ≤ nmE s (numE s p); omega, h4.2, by simp, by simp, by simp, by simp; omega, by simp [h]⟩
  · rw [if_neg hw]
    by_cases hq : byt s (numE s p) = 37
    · rw [if_pos hq]
      have := byt_lt_size s (numE s p) (by omega)
      exact ⟨by show p + 1 ≤ numE s p + 1; omega, by show numE s p + 1 ≤ s.size; omega, by simp, by simp, by simp, by simp, by simp [h]⟩
    · rw [if_neg hq]
      exact ⟨by show p + 1 ≤ numE s p; omega, by show numE s p ≤ s.size; omega, by simp, by simp, by simp, by simp, by simp [h]⟩
theorem id_ok {s : ByteArray} (p : Nat) (hp : p < s.size) (h : ncB (byt s p : Nat) = true) (hn : snB s p = false) : Okt s p (idT s p) := by
  have h1 := nmE_pos s p hp h
  have h2 := (nmE_ge s p (by omega)).2
  unfold idT
  by_cases hq : byt s (nmE s p) = 40
  · rw [if_pos hq]
    have := byt_lt_size s (nmE s p) (by omega)
    exact ⟨by show p + 1 ≤ nmE s p + 1; omega, by show nmE s p + 1 ≤ s.size; omega, by simp, by simp, by simp, by simp, by simp [hn]⟩
  · rw [if_neg hq]
    exact ⟨h1, h2, by simp, by simp, by simp, by simp, by simp [hn]⟩
theorem one_ok {s : ByteArray} (p n k : Nat) (hn : 1 ≤ n) (hp : p + n ≤ s.size) (hk : k ≠ 0 ∧ k ≤ 38 ∧ k ≠ 28 ∧ k ≠ 26 ∧ k ≠ 30 ∧ k ≠ 34) (h : snB s p = false) : Okt s p ⟨k, p + n, 0, 0⟩ := by
  obtain ⟨a, b, c, d, e, f⟩ := hk
  exact ⟨by show p + 1 ≤ p + n; omega, hp, a, b, by simp [c], by simp [d], by simp [d, e, f, h]⟩
theorem punK_is (b k : Nat) (h : punK b = some k) : b < 128 ∧ 33 ≤ b ∧ k ≠ 0 ∧ k ≤ 38 ∧ k ≠ 28 ∧ k ≠ 26 ∧ k ≠ 30 ∧ k ≠ 34 ∧ b ≠ 43 ∧ b ≠ 45 ∧ b ≠ 46 ∧ ¬ (48 ≤ b ∧ b ≤ 57) := by
  unfold punK at h
  by_cases e40 : b = 40
  · rw [if_pos e40] at h; have h := Option.some.inj h; omega
  rw [if_neg e40] at h
  by_cases e41 : b = 41
  · rw [if_pos e41] at h; have h := Option.some.inj h; omega
  rw [if_neg e41] at h
  by_cases e91 : b = 91
  · rw [if_pos e91] at h; have h := Option.some.inj h; omega
  rw [if_neg e91] at h
  by_cases e93 : b = 93
  · rw [if_pos e93] at h; have h := Option.some.inj h; omega
  rw [if_neg e93] at h
  by_cases e123 : b = 123
  · rw [if_pos e123] at h; have h := Option.some.inj h; omega
  rw [if_neg e123] at h
  by_cases e125 : b = 125
  · rw [if_pos e125] at h; have h := Option.some.inj h; omega
  rw [if_neg e125] at h
  by_cases e44 : b = 44
  · rw [if_pos e44] at h; have h := Option.some.inj h; omega
  rw [if_neg e44] at h
  by_cases e58 : b = 58
  · rw [if_pos e58] at h; have h := Option.some.inj h; omega
  rw [if_neg e58] at h
  by_cases e59 : b = 59
  · rw [if_pos e59] at h; have h := Option.some.inj h; omega
  rw [if_neg e59] at h
  by_cases e62 : b = 62
  · rw [if_pos e62] at h; have h := Option.some.inj h; omega
  rw [if_neg e62] at h
  by_cases e126 : b = 126
  · rw [if_pos e126] at h; have h := Option.some.inj h; omega
  rw [if_neg e126] at h
  by_cases e38 : b = 38
  · rw [if_pos e38] at h; have h := Option.some.inj h; omega
  rw [if_neg e38] at h
  by_cases e42 : b = 42
  · rw [if_pos e42] at h; have h := Option.some.inj h; omega
  rw [if_neg e42] at h
  by_cases e124 : b = 124
  · rw [if_pos e124] at h; have h := Option.some.inj h; omega
  rw [if_neg e124] at h
  by_cases e33 : b = 33
  · rw [if_pos e33] at h; have h := Option.some.inj h; omega
  rw [if_neg e33] at h
  by_cases e61 : b = 61
  · rw [if_pos e61] at h; have h := Option.some.inj h; omega
  rw [if_neg e61] at h
  by_cases e94 : b = 94
  · rw [if_pos e94] at h; have h := Option.some.inj h; omega
  rw [if_neg e94] at h
  by_cases e36 : b = 36
  · rw [if_pos e36] at h; have h := Option.some.inj h; omega
  rw [if_neg e36] at h
  cases h
theorem sn_no (s : ByteArray) (p : Nat) (h : byt s p ≠ 43 ∧ byt s p ≠ 45 ∧ byt s p ≠ 46 ∧ ¬ (48 ≤ byt s p ∧ byt s p ≤ 57)) : snB s p = false := by
  have h1 : digC (byt s p) = false := by unfold digC; simp; omega
  have h4 : ¬ (byt s p = 43 ∨ byt s p = 45) := by omega
  unfold snB; rw [h1]; simp [h4, h.2.2.1]
theorem tok_ok {s : ByteArray} (hD : Dom s) (p : Nat) (hp : p < s.size) : Okt s p (tok s p) := by
  unfold tok
  rw [if_neg (by omega)]
  by_cases hw : wsC (byt s p) = true
  · rw [if_pos hw]
    have h1 := run_pos wsC s p hp hw
    have h2 := run_le wsC s p (by omega)
    have hb : byt s p ≤ 32 := by unfold wsC at hw; simp at hw; omega
    have hn := sn_no s p (by omega)
    exact ⟨h1, h2, by simp, by simp, by simp, by simp, by simp [hn]⟩
  · rw [if_neg hw]
    split
    · rename_i k hk
      obtain ⟨a, b, c, d, e, f, g, h, i, j, l, m⟩ := punK_is _ _ hk
      exact one_ok p 1 k (by omega) (by omega) ⟨c, d, e, f, g, h⟩ (sn_no s p ⟨i, j, l, m⟩)
    · by_cases h35 : byt s p = 35
      · rw [if_pos h35]
        have hn := sn_no s p (by omega)
        by_cases hc : ncB (cpOf s (p + 1)) = true
        · rw [if_pos hc]
          have h3 := nmE_ge s (p + 1) (by omega)
          exact ⟨by show p + 1 ≤ nmE s (p + 1); omega, h3.2, by simp, by simp, by simp; split <;> omega, by simp, by simp [hn]⟩
        · rw [if_neg hc]; exact one_ok p 1 11 (by omega) (by omega) (by omega) hn
      rw [if_neg h35]
      by_cases h64 : byt s p = 64
      · rw [if_pos h64]
        have hn := sn_no s p (by omega)
        by_cases hc : wslA s (p + 1) = true
        · rw [if_pos hc]
          have h3 := nmE_ge s (p + 1) (by omega)
          exact ⟨by show p + 1 ≤ nmE s (p + 1); omega, h3.2, by simp, by simp, by simp, by simp, by simp [hn]⟩
        · rw [if_neg hc]; exact one_ok p 1 11 (by omega) (by omega) (by omega) hn
      rw [if_neg h64]
      rw [wsn_sn s p hp]
      by_cases h43 : byt s p = 43
      · rw [if_pos h43]
        by_cases hn : snB s p = true
        · rw [if_pos hn]; exact num_ok hD p hp hn
        · rw [if_neg hn]; exact one_ok p 1 23 (by omega) (by omega) (by omega) (by simpa using hn)
      rw [if_neg h43]
      by_cases h46 : byt s p = 46
      · rw [if_pos h46]
        by_cases hn : snB s p = true
        · rw [if_pos hn]; exact num_ok hD p hp hn
        · rw [if_neg hn]; exact one_ok p 1 17 (by omega) (by omega) (by omega) (by simpa using hn)
      rw [if_neg h46]
      by_cases h45 : byt s p = 45
      · rw [if_pos h45]
        by_cases hn : snB s p = true
        · rw [if_pos hn]; exact num_ok hD p hp hn
        · rw [if_neg hn]
          have hn' : snB s p = false := by simpa using hn
          by_cases hd : byt s (p + 1) = 45 ∧ byt s (p + 2) = 62
          · rw [if_pos hd]
            have := byt_lt_size s (p + 2) (by omega)
            exact one_ok p 3 4 (by omega) (by omega) (by omega) hn'
          · rw [if_neg hd]
            by_cases hl : wslA s p = true
            · rw [if_pos hl]; exact id_ok p hp (wsl_nc hD p (by omega) hl).2 hn'
            · rw [if_neg hl]; exact one_ok p 1 22 (by omega) (by omega) (by omega) hn'
      rw [if_neg h45]
      by_cases h60 : byt s p = 60
      · rw [if_pos h60]
        have hn := sn_no s p (by omega)
        by_cases hd : byt s (p + 1) = 33 ∧ byt s (p + 2) = 45 ∧ byt s (p + 3) = 45
        · rw [if_pos hd]
          have := byt_lt_size s (p + 3) (by omega)
          exact one_ok p 4 5 (by omega) (by omega) (by omega) hn
        · rw [if_neg hd]; exact one_ok p 1 21 (by omega) (by omega) (by omega) hn
      rw [if_neg h60]
      by_cases hd : digC (byt s p) = true
      · rw [if_pos hd]; exact num_ok hD p hp (by unfold snB; rw [hd]; simp)
      · rw [if_neg hd]
        have hn := sn_no s p ⟨h43, h45, h46, by unfold digC at hd; simpa using hd⟩
        by_cases hs : nsB (byt s p : Nat) = true
        · rw [if_pos hs]; exact id_ok p hp (by unfold ncB; rw [hs]; rfl) hn
        · rw [if_neg hs]; exact one_ok p 1 11 (by omega) (by omega) (by omega) hn
end Go.Proofs.YtocciemgdikmjaaDoor
