/-
  next: one call lays the plain token.
-/
import Derived.Test.YtocciemgdikmjaaDoorD6
import Derived.Test.YtocciemgdikmjaaDoorD7
import Derived.Test.YtocciemgdikmjaaDoorD8
import Derived.Test.YtocciemgdikmjaaDoorD9
import Derived.Test.YtocciemgdikmjaaDoorD10
import Derived.Test.YtocciemgdikmjaaDoorD11
import Derived.Test.YtocciemgdikmjaaDoorD13
namespace Go.Proofs.YtocciemgdikmjaaDoor
open Go.ChangeShapes Go.WideShapes Go.ChangeAt Go.RowKit
open Go.Lib (decodeN decode_at decodeGo)
set_option linter.unusedVariables false
theorem ws_or (b : Nat) (h : wsC b = true) : b = 32 ∨ b = 9 ∨ b = 10 ∨ b = 13 ∨ b = 12 := by unfold wsC at h; simpa using h
theorem dig_or (b : Nat) (h : digC b = true) : b = 48 ∨ b = 49 ∨ b = 50 ∨ b = 51 ∨ b = 52 ∨ b = 53 ∨ b = 54 ∨ b = 55 ∨ b = 56 ∨ b = 57 := by unfold digC at h; simp at h; omega
theorem punK_or (b k : Nat) (h : punK b = some k) : (b = 40 ∧ k = 33) ∨ (b = 41 ∧ k = 8) ∨ (b = 91 ∧ k = 32) ∨ (b = 93 ∧ k = 7) ∨ (b = 123 ∧ k = 31) ∨ (b = 125 ∧ k = 6) ∨ (b = 44 ∧ k = 10) ∨ (b = 58 ∧ k = 9) ∨ (b = 59 ∧ k = 35) ∨ (b = 62 ∧ k = 20) ∨ (b = 126 ∧ k = 25) ∨ (b = 38 ∧ k = 12) ∨ (b = 42 ∧ k = 13) ∨ (b = 124 ∧ k = 14) ∨ (b = 33 ∧ k = 19) ∨ (b = 61 ∧ k = 18) ∨ (b = 94 ∧ k = 15) ∨ (b = 36 ∧ k = 16) := by
  unfold punK at h
  by_cases e40 : b = 40
  · rw [if_pos e40] at h; exact Or.inl ⟨e40, (Option.some.inj h).symm⟩
  rw [if_neg e40] at h
  by_cases e41 : b = 41
  · rw [if_pos e41] at h; exact Or.inr (Or.inl ⟨e41, (Option.some.inj h).symm⟩)
  rw [if_neg e41] at h
  by_cases e91 : b = 91
  · rw [if_pos e91] at h; exact Or.inr (Or.inr (Or.inl ⟨e91, (Option.some.inj h).symm⟩))
  rw [if_neg e91] at h
  by_cases e93 : b = 93
  · rw [if_pos e93] at h; exact Or.inr (Or.inr (Or.inr (Or.inl ⟨e93, (Option.some.inj h).symm⟩)))
  rw [if_neg e93] at h
  by_cases e123 : b = 123
  · rw [if_pos e123] at h; exact Or.inr (Or.inr (Or.inr (Or.inr (Or.inl ⟨e123, (Option.some.inj h).symm⟩))))
  rw [if_neg e123] at h
  by_cases e125 : b = 125
  · rw [if_pos e125] at h; exact Or.inr (Or.inr (Or.inr (Or.inr (Or.inr (Or.inl ⟨e125, (Option.some.inj h).symm⟩)))))
  rw [if_neg e125] at h
  by_cases e44 : b = 44
  · rw [if_pos e44] at h; exact Or.inr (Or.inr (Or.inr (Or.inr (Or.inr (Or.inr (Or.inl ⟨e44, (Option.some.inj h).symm⟩))))))
  rw [if_neg e44] at h
  by_cases e58 : b = 58
  · rw [if_pos e58] at h; exact Or.inr (Or.inr (Or.inr (Or.inr (Or.inr (Or.inr (Or.inr (Or.inl ⟨e58, (Option.some.inj h).symm⟩)))))))
  rw [if_neg e58] at h
  by_cases e59 : b = 59
  · rw [if_pos e59] at h; exact Or.inr (Or.inr (Or.inr (Or.inr (Or.inr (Or.inr (Or.inr (Or.inr (Or.inl ⟨e59, (Option.some.inj h).symm⟩))))))))
  rw [if_neg e59] at h
  by_cases e62 : b = 62
  · rw [if_pos e62] at h; exact Or.inr (Or.inr (Or.inr (Or.inr (Or.inr (Or.inr (Or.inr (Or.inr (Or.inr (Or.inl ⟨e62, (Option.some.inj h).symm⟩)))))))))
  rw [if_neg e62] at h
  by_cases e126 : b = 126
  · rw [if_pos e126] at h; exact Or.inr (Or.inr (Or.inr (Or.inr (Or.inr (Or.inr (Or.inr (Or.inr (Or.inr (Or.inr (Or.inl ⟨e126, (Option.some.inj h).symm⟩))))))))))
  rw [if_neg e126] at h
  by_cases e38 : b = 38
  · rw [if_pos e38] at h; exact Or.inr (Or.inr (Or.inr (Or.inr (Or.inr (Or.inr (Or.inr (Or.inr (Or.inr (Or.inr (Or.inr (Or.inl ⟨e38, (Option.some.inj h).symm⟩)))))))))))
  rw [if_neg e38] at h
  by_cases e42 : b = 42
  · rw [if_pos e42] at h; exact Or.inr (Or.inr (Or.inr (Or.inr (Or.inr (Or.inr (Or.inr (Or.inr (Or.inr (Or.inr (Or.inr (Or.inr (Or.inl ⟨e42, (Option.some.inj h).symm⟩))))))))))))
  rw [if_neg e42] at h
  by_cases e124 : b = 124
  · rw [if_pos e124] at h; exact Or.inr (Or.inr (Or.inr (Or.inr (Or.inr (Or.inr (Or.inr (Or.inr (Or.inr (Or.inr (Or.inr (Or.inr (Or.inr (Or.inl ⟨e124, (Option.some.inj h).symm⟩)))))))))))))
  rw [if_neg e124] at h
  by_cases e33 : b = 33
  · rw [if_pos e33] at h; exact Or.inr (Or.inr (Or.inr (Or.inr (Or.inr (Or.inr (Or.inr (Or.inr (Or.inr (Or.inr (Or.inr (Or.inr (Or.inr (Or.inr (Or.inl ⟨e33, (Option.some.inj h).symm⟩))))))))))))))
  rw [if_neg e33] at h
  by_cases e61 : b = 61
  · rw [if_pos e61] at h; exact Or.inr (Or.inr (Or.inr (Or.inr (Or.inr (Or.inr (Or.inr (Or.inr (Or.inr (Or.inr (Or.inr (Or.inr (Or.inr (Or.inr (Or.inr (Or.inl ⟨e61, (Option.some.inj h).symm⟩)))))))))))))))
  rw [if_neg e61] at h
  by_cases e94 : b = 94
  · rw [if_pos e94] at h; exact Or.inr (Or.inr (Or.inr (Or.inr (Or.inr (Or.inr (Or.inr (Or.inr (Or.inr (Or.inr (Or.inr (Or.inr (Or.inr (Or.inr (Or.inr (Or.inr (Or.inl ⟨e94, (Option.some.inj h).symm⟩))))))))))))))))
  rw [if_neg e94] at h
  by_cases e36 : b = 36
  · rw [if_pos e36] at h; exact Or.inr (Or.inr (Or.inr (Or.inr (Or.inr (Or.inr (Or.inr (Or.inr (Or.inr (Or.inr (Or.inr (Or.inr (Or.inr (Or.inr (Or.inr (Or.inr (Or.inr (⟨e36, (Option.some.inj h).symm⟩)))))))))))))))))
  rw [if_neg e36] at h
  cases h
theorem punK_none (b : Nat) (h : punK b = none) : b ≠ 40 ∧ b ≠ 41 ∧ b ≠ 91 ∧ b ≠ 93 ∧ b ≠ 123 ∧ b ≠ 125 ∧ b ≠ 44 ∧ b ≠ 58 ∧ b ≠ 59 ∧ b ≠ 62 ∧ b ≠ 126 ∧ b ≠ 38 ∧ b ≠ 42 ∧ b ≠ 124 ∧ b ≠ 33 ∧ b ≠ 61 ∧ b ≠ 94 ∧ b ≠ 36 := by
  refine ⟨?_, ?_, ?_, ?_, ?_, ?_, ?_, ?_, ?_, ?_, ?_, ?_, ?_, ?_, ?_, ?_, ?_, ?_⟩
  all_goals (rintro rfl; revert h; decide)
set_option maxRecDepth 100000 in
theorem next63 {w0 w : World} {g : Nat} {s : ByteArray} {C : Nat → Option Value} {p st : Nat} {u k f : Int} (h : Pl w0 w g s C p st u k f) (hp : p ≤ s.size) (hs : s.size ≤ 1048576) (hst : st ≤ p) (hD : Dom s) (hU : NoUrl s) :
    Calls Tryd.prog 63 #[.pointer (some ⟨g, 0, none⟩)] w fun e w' => e = .returned (.tuple #[]) ∧ Go2 w0 w w' g s C (tok s p).e p (tok s p).u (tok s p).k (tok s p).f := by
  by_cases hlt : p < s.size
  case neg =>
    have e : p = s.size := by omega
    rw [show tok s p = ⟨0, p, 0, 0⟩ by unfold tok; rw [if_pos (show s.size ≤ p by omega)]]
    exact nx_eof h hp hs hst e
  have hd := hD p hlt
  obtain ⟨b, hb⟩ : ∃ b, byt s p = b := ⟨_, rfl⟩
  have hcp (c : Nat) (hc : c < 128) (e : b = c) : cpOf s p = (c : Int) := by
    rw [cp_asc s p hlt (by omega), hb, e]
  rw [hb] at hd
  by_cases hw : wsC b = true
  · rw [show tok s p = ⟨38, run wsC s p, 0, 0⟩ by unfold tok; rw [if_neg (show ¬ s.size ≤ p by omega), hb, if_pos hw]]
    rcases ws_or b hw with e | e | e | e | e
    · exact nx_32 h hp hs hst hD (hcp 32 (by omega) e)
    · exact nx_9 h hp hs hst hD (hcp 9 (by omega) e)
    · exact nx_10 h hp hs hst hD (hcp 10 (by omega) e)
    · exact nx_13 h hp hs hst hD (hcp 13 (by omega) e)
    · exact nx_12 h hp hs hst hD (hcp 12 (by omega) e)
  cases hk : punK b with
  | some k =>
    rw [show tok s p = ⟨k, p + 1, 0, 0⟩ by unfold tok; rw [if_neg (show ¬ s.size ≤ p by omega), hb, if_neg hw, hk]]
    rcases punK_or b k hk with ⟨e, rfl⟩ | ⟨e, rfl⟩ | ⟨e, rfl⟩ | ⟨e, rfl⟩ | ⟨e, rfl⟩ | ⟨e, rfl⟩ | ⟨e, rfl⟩ | ⟨e, rfl⟩ | ⟨e, rfl⟩ | ⟨e, rfl⟩ | ⟨e, rfl⟩ | ⟨e, rfl⟩ | ⟨e, rfl⟩ | ⟨e, rfl⟩ | ⟨e, rfl⟩ | ⟨e, rfl⟩ | ⟨e, rfl⟩ | ⟨e, rfl⟩
    · exact nx_40 h hp hs hst (hcp 40 (by omega) e)
    · exact nx_41 h hp hs hst (hcp 41 (by omega) e)
    · exact nx_91 h hp hs hst (hcp 91 (by omega) e)
    · exact nx_93 h hp hs hst (hcp 93 (by omega) e)
    · exact nx_123 h hp hs hst (hcp 123 (by omega) e)
    · exact nx_125 h hp hs hst (hcp 125 (by omega) e)
    · exact nx_44 h hp hs hst (hcp 44 (by omega) e)
    · exact nx_58 h hp hs hst (hcp 58 (by omega) e)
    · exact nx_59 h hp hs hst (hcp 59 (by omega) e)
    · exact nx_62 h hp hs hst (hcp 62 (by omega) e)
    · exact nx_126 h hp hs hst (hcp 126 (by omega) e)
    · exact nx_38 h hp hs hst (hcp 38 (by omega) e)
    · exact nx_42 h hp hs hst (hcp 42 (by omega) e)
    · exact nx_124 h hp hs hst (hcp 124 (by omega) e)
    · exact nx_33 h hp hs hst (hcp 33 (by omega) e)
    · exact nx_61 h hp hs hst (hcp 61 (by omega) e)
    · exact nx_94 h hp hs hst (hcp 94 (by omega) e)
    · exact nx_36 h hp hs hst (hcp 36 (by omega) e)
  | none =>
    have ht : tok s p = (if b = 35 then (if ncB (cpOf s (p + 1)) = true then ⟨28, nmE s (p + 1), 0, if wslA s (p + 1) = true then 1 else 0⟩ else ⟨11, p + 1, 0, 0⟩)
      else if b = 64 then (if wslA s (p + 1) = true then ⟨1, nmE s (p + 1), 0, 0⟩ else ⟨11, p + 1, 0, 0⟩)
      else if b = 43 then (if wsnA s p = true then numT s p else ⟨23, p + 1, 0, 0⟩)
      else if b = 46 then (if wsnA s p = true then numT s p else ⟨17, p + 1, 0, 0⟩)
      else if b = 45 then (if wsnA s p = true then numT s p else if byt s (p + 1) = 45 ∧ byt s (p + 2) = 62 then ⟨4, p + 3, 0, 0⟩ else if wslA s p = true then idT s p else ⟨22, p + 1, 0, 0⟩)
      else if b = 60 then (if byt s (p + 1) = 33 ∧ byt s (p + 2) = 45 ∧ byt s (p + 3) = 45 then ⟨5, p + 4, 0, 0⟩ else ⟨21, p + 1, 0, 0⟩)
      else if digC b = true then numT s p
      else if nsB (b : Nat) = true then idT s p
      else ⟨11, p + 1, 0, 0⟩) := by
      unfold tok; rw [if_neg (show ¬ s.size ≤ p by omega), hb, if_neg hw, hk]
    have hn0 : (numT s p).f = 0 := by unfold numT; split; · rfl
                                      split <;> rfl
    have hi0 : (idT s p).f = 0 ∧ (idT s p).u = 0 := by unfold idT; split <;> exact ⟨rfl, rfl⟩
    rw [ht]
    by_cases h35 : b = 35
    · rw [if_pos h35]
      by_cases hc : ncB (cpOf s (p + 1)) = true
      · rw [if_pos hc]; exact nx_35a h hp hs hst hD (hcp 35 (by omega) h35) hc
      · rw [if_neg hc]; exact nx_35b h hp hs hst hD (hcp 35 (by omega) h35) (by simpa using hc)
    rw [if_neg h35]
    by_cases h64 : b = 64
    · rw [if_pos h64]
      by_cases hc : wslA s (p + 1) = true
      · rw [if_pos hc]; exact nx_64a h hp hs hst hD (hcp 64 (by omega) h64) hc
      · rw [if_neg hc]; exact nx_64b h hp hs hst hD (hcp 64 (by omega) h64) (by simpa using hc)
    rw [if_neg h64]
    by_cases h43 : b = 43
    · rw [if_pos h43]
      by_cases hc : wsnA s p = true
      · rw [if_pos hc, hn0]; exact nx_43a h hp hs hst hD (hcp 43 (by omega) h43) hc
      · rw [if_neg hc]; exact nx_43b h hp hs hst hD (hcp 43 (by omega) h43) (by simpa using hc)
    rw [if_neg h43]
    by_cases h46 : b = 46
    · rw [if_pos h46]
      by_cases hc : wsnA s p = true
      · rw [if_pos hc, hn0]; exact nx_46a h hp hs hst hD (hcp 46 (by omega) h46) hc
      · rw [if_neg hc]; exact nx_46b h hp hs hst hD (hcp 46 (by omega) h46) (by simpa using hc)
    rw [if_neg h46]
    by_cases h45 : b = 45
    · rw [if_pos h45]
      by_cases hc : wsnA s p = true
      · rw [if_pos hc, hn0]; exact nx_45a h hp hs hst hD (hcp 45 (by omega) h45) hc
      · have hc' : wsnA s p = false := by simpa using hc
        rw [if_neg hc]
        by_cases hq : byt s (p + 1) = 45 ∧ byt s (p + 2) = 62
        · rw [if_pos hq]; exact nx_45w h hp hs hst hD (hcp 45 (by omega) h45) hc' hq
        · rw [if_neg hq]
          by_cases hl : wslA s p = true
          · rw [if_pos hl, hi0.1, hi0.2]; exact nx_45i h hp hs hst hD (hcp 45 (by omega) h45) hc' hq hU hl
          · rw [if_neg hl]; exact nx_45d h hp hs hst hD (hcp 45 (by omega) h45) hc' hq (by simpa using hl)
    rw [if_neg h45]
    by_cases h60 : b = 60
    · rw [if_pos h60]
      by_cases hq : byt s (p + 1) = 33 ∧ byt s (p + 2) = 45 ∧ byt s (p + 3) = 45
      · rw [if_pos hq]; exact nx_60w h hp hs hst hD (hcp 60 (by omega) h60) hq
      · rw [if_neg hq]; exact nx_60d h hp hs hst hD (hcp 60 (by omega) h60) hq
    rw [if_neg h60]
    by_cases hg : digC b = true
    · rw [if_pos hg, hn0]
      rcases dig_or b hg with e | e | e | e | e | e | e | e | e | e
      · exact nx_48 h hp hs hst hD (hcp 48 (by omega) e)
      · exact nx_49 h hp hs hst hD (hcp 49 (by omega) e)
      · exact nx_50 h hp hs hst hD (hcp 50 (by omega) e)
      · exact nx_51 h hp hs hst hD (hcp 51 (by omega) e)
      · exact nx_52 h hp hs hst hD (hcp 52 (by omega) e)
      · exact nx_53 h hp hs hst hD (hcp 53 (by omega) e)
      · exact nx_54 h hp hs hst hD (hcp 54 (by omega) e)
      · exact nx_55 h hp hs hst hD (hcp 55 (by omega) e)
      · exact nx_56 h hp hs hst hD (hcp 56 (by omega) e)
      · exact nx_57 h hp hs hst hD (hcp 57 (by omega) e)
    rw [if_neg hg]
    have hpn := punK_none b hk
    have hgn : ¬ (48 ≤ b ∧ b ≤ 57) := fun hh => hg (by unfold digC; simp; omega)
    have hwn : ¬ (b = 32 ∨ b = 9 ∨ b = 10 ∨ b = 13 ∨ b = 12) := fun hh => hw (by unfold wsC; simpa using hh)
    obtain ⟨c, hc⟩ : ∃ c, cpOf s p = c := ⟨_, rfl⟩
    have hcb : (b < 128 ∧ c = (b : Int)) ∨ (128 ≤ b ∧ 128 ≤ c) := by
      by_cases hb2 : b < 128
      · exact Or.inl ⟨hb2, by rw [← hc, cp_asc s p hlt (by omega), hb]⟩
      · exact Or.inr ⟨by omega, by rw [← hc]; exact cp_hi s p hlt (by omega)⟩
    have hns : nsB c = nsB (b : Nat) := by rw [← hc, ns_cp s p hlt, hb]
    clear hcp ht hk hw hg
    have hx : c ≠ -1 ∧ c ≠ 47 ∧ c ≠ 32 ∧ c ≠ 9 ∧ c ≠ 10 ∧ c ≠ 13 ∧ c ≠ 12 ∧ c ≠ 34 ∧ c ≠ 39 ∧ c ≠ 35 ∧ c ≠ 40 ∧ c ≠ 41 ∧ c ≠ 91 ∧ c ≠ 93 ∧ c ≠ 123 ∧ c ≠ 125 ∧ c ≠ 44 ∧ c ≠ 58 ∧ c ≠ 59 ∧ c ≠ 43 ∧ c ≠ 46 ∧ c ≠ 45 ∧ c ≠ 60 ∧ c ≠ 64 ∧ c ≠ 92 ∧ c ≠ 48 ∧ c ≠ 49 ∧ c ≠ 50 ∧ c ≠ 51 ∧ c ≠ 52 ∧ c ≠ 53 ∧ c ≠ 54 ∧ c ≠ 55 ∧ c ≠ 56 ∧ c ≠ 57 ∧ c ≠ 62 ∧ c ≠ 126 ∧ c ≠ 38 ∧ c ≠ 42 ∧ c ≠ 124 ∧ c ≠ 33 ∧ c ≠ 61 ∧ c ≠ 94 ∧ c ≠ 36 := by
      refine ⟨by omega, by omega, by omega, by omega, by omega, by omega, by omega, by omega, by omega, by omega, by omega, by omega, by omega, by omega, by omega, by omega, by omega, by omega, by omega, by omega, by omega, by omega, by omega, by omega, by omega, by omega, by omega, by omega, by omega, by omega, by omega, by omega, by omega, by omega, by omega, by omega, by omega, by omega, by omega, by omega, by omega, by omega, by omega, by omega⟩
    by_cases hn : nsB (b : Nat) = true
    · rw [if_pos hn, hi0.1, hi0.2]
      exact nx_ns h hp hs hst hD hU c hc hx (by rw [hns]; exact hn)
    · rw [if_neg hn]
      have hb3 : b < 128 := by
        by_cases h1 : b < 128
        · exact h1
        · exact absurd (show nsB (b : Nat) = true by unfold nsB; simp; omega) hn
      exact nx_ot h hp hs hst hD hU c hc hx (by rw [hns]; simpa using hn) (by omega) (by omega)
end Go.Proofs.YtocciemgdikmjaaDoor
