/-
  What wouldStartNumber answers, and that it looks no further than three bytes. No Go in sight.
-/
import Derived.Test.YtocciemgdikmjaaDoorF3
namespace Go.Proofs.YtocciemgdikmjaaDoor
open Go.Lib (decodeN decode_at decodeGo)
def digB (c : Int) : Bool := decide (48 ≤ c ∧ c ≤ 57)
def wsnB (s : ByteArray) (cur : Nat) (cp : Int) : Bool :=
  if digB cp then true
  else if cp = 46 then (if h : cur < s.size then digB (s[cur]'h).toNat else false)
  else if cp = 43 ∨ cp = 45 then
    (if h : cur < s.size then
      (if digB (s[cur]'h).toNat then true else if (s[cur]'h).toNat = 46 then (if h2 : cur + 1 < s.size then digB (s[cur + 1]'h2).toNat else false) else false) else false)
  else false
/-- the lexer after the first step -/
def wsn0 (s : ByteArray) : Bool := wsnB s (0 + (decodeGo (s.extract 0 s.size)).2) (cpOf s 0)
theorem wsn0_high (s : ByteArray) (h : 0 < s.size) (hb : 128 ≤ (s[0]'h).toNat) : wsn0 s = false := by
  have := cp_high s 0 h hb
  unfold wsn0 wsnB digB
  rw [if_neg (by simp; omega), if_neg (by omega), if_neg (by omega)]
theorem wsn0_ascii (s : ByteArray) (h : 0 < s.size) (hb : (s[0]'h).toNat < 128) : wsn0 s = wsnB s 1 (s[0]'h).toNat := by
  unfold wsn0
  rw [cp_ascii s 0 h hb, (at_byte s 0 h).1 hb]
  rfl
theorem wsn0_local (s : ByteArray) (h3 : 3 < s.size) : wsn0 (s.extract 0 3) = wsn0 s := by
  have hs : (s.extract 0 3).size = 3 := by simp; omega
  have g (i : Nat) (hi : i < 3) : (s.extract 0 3)[i]'(by omega) = s[i]'(by omega) := by
    rw [ByteArray.getElem_extract]; simp
  have e0 := g 0 (by omega)
  have e1 := g 1 (by omega)
  have e2 := g 2 (by omega)
  by_cases hb : (s[0]'(by omega)).toNat < 128
  · rw [wsn0_ascii s (by omega) hb, wsn0_ascii (s.extract 0 3) (by omega) (by rw [e0]; exact hb), e0]
    unfold wsnB
    rw [dif_pos (by omega : 1 < (s.extract 0 3).size), dif_pos (by omega : 1 < s.size), dif_pos (by omega : 1 < (s.extract 0 3).size), dif_pos (by omega : 1 < s.size), dif_pos (by omega : 1 + 1 < (s.extract 0 3).size), dif_pos (by omega : 1 + 1 < s.size), e1]
    simp only [Nat.reduceAdd]
    rw [e2]
  · rw [wsn0_high s (by omega) (by omega), wsn0_high (s.extract 0 3) (by omega) (by rw [e0]; omega)]
end Go.Proofs.YtocciemgdikmjaaDoor
