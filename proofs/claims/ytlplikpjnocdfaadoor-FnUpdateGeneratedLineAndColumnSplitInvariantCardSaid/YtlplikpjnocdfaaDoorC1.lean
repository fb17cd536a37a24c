/-
  UTF-8 plainly, over lists of bytes: the rune at a place, its width; what is cut off changes nothing ahead. Bytes made a string.
-/
import Derived.Test.YtlplikpjnocdfaaDoorA1
import Derived.Laws.BytesArg
import Derived.Laws.RangeAny
import Derived.Lib.DecodeN
namespace Go.Proofs.YtlplikpjnocdfaaDoor
open Go.ChangeShapes Go.WideShapes Go.ChangeAt Go.RowKit
set_option linter.unusedVariables false
def zd (n b0 b1 b2 b3 : Nat) : Nat × Nat :=
  if b0 < 128 then (b0, 1)
  else if 194 ≤ b0 ∧ b0 ≤ 223 then (if 2 ≤ n ∧ 128 ≤ b1 ∧ b1 ≤ 191 then (b0 % 32 * 64 + b1 % 64, 2) else (65533, 1))
  else if 224 ≤ b0 ∧ b0 ≤ 239 then (if 3 ≤ n ∧ (if b0 = 224 then 160 else 128) ≤ b1 ∧ b1 ≤ (if b0 = 237 then 159 else 191) ∧ 128 ≤ b2 ∧ b2 ≤ 191 then (b0 % 16 * 4096 + b1 % 64 * 64 + b2 % 64, 3) else (65533, 1))
  else if 240 ≤ b0 ∧ b0 ≤ 244 then (if 4 ≤ n ∧ (if b0 = 240 then 144 else 128) ≤ b1 ∧ b1 ≤ (if b0 = 244 then 143 else 191) ∧ 128 ≤ b2 ∧ b2 ≤ 191 ∧ 128 ≤ b3 ∧ b3 ≤ 191 then (b0 % 8 * 262144 + b1 % 64 * 4096 + b2 % 64 * 64 + b3 % 64, 4) else (65533, 1))
  else (65533, 1)
theorem zd_w (n b0 b1 b2 b3 : Nat) : 1 ≤ (zd n b0 b1 b2 b3).2 ∧ (zd n b0 b1 b2 b3).2 ≤ 4 := by
  unfold zd
  repeat' split
  all_goals simp
theorem zd_fit (n b0 b1 b2 b3 : Nat) (h : 1 ≤ n) : (zd n b0 b1 b2 b3).2 ≤ n := by
  unfold zd
  repeat' split
  all_goals (try simp)
  all_goals omega
theorem zd_13 (n b0 b1 b2 b3 : Nat) (h : (zd n b0 b1 b2 b3).1 = 13) : b0 = 13 ∧ (zd n b0 b1 b2 b3).2 = 1 := by
  unfold zd at h ⊢
  by_cases h0 : b0 < 128
  · rw [if_pos h0] at h ⊢; exact ⟨h, rfl⟩
  · exfalso
    rw [if_neg h0] at h
    repeat' split at h
    all_goals (simp at h)
    all_goals omega
/-- fewer bytes are there, but the rune fits in what is there -/
theorem zd_cut (n m b0 b1 b2 b3 c1 c2 c3 : Nat) (hm : 1 ≤ m) (hnm : m ≤ n) (hw : (zd n b0 b1 b2 b3).2 ≤ m) (e1 : 2 ≤ m → c1 = b1) (e2 : 3 ≤ m → c2 = b2) (e3 : 4 ≤ m → c3 = b3) : zd m b0 c1 c2 c3 = zd n b0 b1 b2 b3 := by
  unfold zd at hw ⊢
  by_cases h0 : b0 < 128
  · rw [if_pos h0, if_pos h0]
  rw [if_neg h0] at hw
  rw [if_neg h0, if_neg h0]
  by_cases h1 : 194 ≤ b0 ∧ b0 ≤ 223
  · rw [if_pos h1] at hw
    rw [if_pos h1, if_pos h1]
    by_cases c : 2 ≤ n ∧ 128 ≤ b1 ∧ b1 ≤ 191
    · rw [if_pos c] at hw
      have hm2 : 2 ≤ m := hw
      rw [if_pos c, e1 hm2, if_pos ⟨hm2, c.2⟩]
    · rw [if_neg c, if_neg]
      rintro ⟨a, b, d⟩
      rw [e1 a] at b d
      exact c ⟨by omega, b, d⟩
  rw [if_neg h1] at hw
  rw [if_neg h1, if_neg h1]
  by_cases h2 : 224 ≤ b0 ∧ b0 ≤ 239
  · rw [if_pos h2] at hw
    rw [if_pos h2, if_pos h2]
    by_cases c : 3 ≤ n ∧ (if b0 = 224 then 160 else 128) ≤ b1 ∧ b1 ≤ (if b0 = 237 then 159 else 191) ∧ 128 ≤ b2 ∧ b2 ≤ 191
    · rw [if_pos c] at hw
      have hm2 : 3 ≤ m := hw
      rw [if_pos c, e1 (by omega), e2 hm2, if_pos ⟨hm2, c.2⟩]
    · rw [if_neg c, if_neg]
      rintro ⟨a, b⟩
      rw [e1 (by omega), e2 a] at b
      exact c ⟨by omega, b⟩
  rw [if_neg h2] at hw
  rw [if_neg h2, if_neg h2]
  by_cases h3 : 240 ≤ b0 ∧ b0 ≤ 244
  · rw [if_pos h3] at hw
    rw [if_pos h3, if_pos h3]
    by_cases c : 4 ≤ n ∧ (if b0 = 240 then 144 else 128) ≤ b1 ∧ b1 ≤ (if b0 = 244 then 143 else 191) ∧ 128 ≤ b2 ∧ b2 ≤ 191 ∧ 128 ≤ b3 ∧ b3 ≤ 191
    · rw [if_pos c] at hw
      have hm2 : 4 ≤ m := hw
      rw [if_pos c, e1 (by omega), e2 (by omega), e3 hm2, if_pos ⟨hm2, c.2⟩]
    · rw [if_neg c, if_neg]
      rintro ⟨a, b⟩
      rw [e1 (by omega), e2 (by omega), e3 a] at b
      exact c ⟨by omega, b⟩
  · rw [if_neg h3, if_neg h3]
/-- the byte at i, or nought -/
def nb (xs : List Int) (i : Nat) : Nat := (xs.getD i 0).toNat
/-- the rune at i and its width -/
def dz (xs : List Int) (i : Nat) : Nat × Nat := zd (xs.length - i) (nb xs i) (nb xs (i + 1)) (nb xs (i + 2)) (nb xs (i + 3))
theorem dz_w (xs : List Int) (i : Nat) : 1 ≤ (dz xs i).2 ∧ (dz xs i).2 ≤ 4 := zd_w _ _ _ _ _
theorem dz_fit (xs : List Int) (i : Nat) (h : i < xs.length) : i + (dz xs i).2 ≤ xs.length := by
  have := zd_fit (xs.length - i) (nb xs i) (nb xs (i + 1)) (nb xs (i + 2)) (nb xs (i + 3)) (by omega)
  unfold dz; omega
theorem nb_take (xs : List Int) (k i : Nat) (h : i < k) : nb (xs.take k) i = nb xs i := by
  simp [nb, List.getD, h]
theorem nb_drop (xs : List Int) (k i : Nat) : nb (xs.drop k) i = nb xs (k + i) := by
  simp [nb, List.getD]
theorem dz_drop (xs : List Int) (k i : Nat) : dz (xs.drop k) i = dz xs (k + i) := by
  unfold dz
  rw [nb_drop, nb_drop, nb_drop, nb_drop, List.length_drop]
  congr 1
  omega
theorem dz_take (xs : List Int) (k i : Nat) (hk : k ≤ xs.length) (hi : i < k) (hw : i + (dz xs i).2 ≤ k) : dz (xs.take k) i = dz xs i := by
  have hl : (xs.take k).length = k := by simp; omega
  unfold dz at hw ⊢
  rw [hl, nb_take xs k i hi]
  exact zd_cut _ _ _ _ _ _ _ _ _ (by omega) (by omega) (by omega) (fun h => nb_take xs k _ (by omega)) (fun h => nb_take xs k _ (by omega)) (fun h => nb_take xs k _ (by omega))
def AllB (xs : List Int) : Prop := ∀ i, 0 ≤ xs.getD i 0 ∧ xs.getD i 0 < 256
theorem nb_lt {xs : List Int} (h : AllB xs) (i : Nat) : nb xs i < 256 := by have := h i; unfold nb; omega
theorem AllB.drop {xs : List Int} (h : AllB xs) (k : Nat) : AllB (xs.drop k) := by
  intro i
  have := h (k + i)
  simpa [List.getD] using this
theorem AllB.take {xs : List Int} (h : AllB xs) (k : Nat) : AllB (xs.take k) := by
  intro i
  by_cases hi : i < k
  · have := h i
    simpa [List.getD, List.getElem?_take, hi] using this
  · simp [List.getD, List.getElem?_take, hi]
theorem str_dsz (xs : List Int) : (strOfNums xs).data.size = xs.length := strOfNums_size xs
theorem str_get (xs : List Int) (h : AllB xs) (i : Nat) (hi : i < xs.length) : ((strOfNums xs).get! i).toNat = nb xs i := by
  have hb := nb_lt h i
  have hs : i < (strOfNums xs).data.size := by rw [str_dsz]; exact hi
  have e : (strOfNums xs).get! i = UInt8.ofNat (nb xs i) := by
    show (strOfNums xs).data[i]! = _
    rw [getElem!_pos (strOfNums xs).data i hs]
    simp [strOfNums, nb, List.getD, hi]
  rw [e]
  exact UInt8.toNat_ofNat_of_lt (by simpa using hb)
theorem str_get_out (xs : List Int) (i : Nat) (hi : ¬ i < xs.length) : ((strOfNums xs).get! i).toNat = 0 := by
  have hs : ¬ i < (strOfNums xs).data.size := by rw [str_dsz]; exact hi
  show ((strOfNums xs).data[i]!).toNat = 0
  rw [getElem!_neg (strOfNums xs).data i hs]
  rfl
theorem str_nb (xs : List Int) (h : AllB xs) (i : Nat) : ((strOfNums xs).get! i).toNat = nb xs i := by
  by_cases hi : i < xs.length
  · exact str_get xs h i hi
  · rw [str_get_out xs i hi]; simp [nb, List.getD, show xs.length ≤ i by omega]
open Go.Lib (decodeN decode_at) in
theorem zd_eq (n b0 b1 b2 b3 : Nat) (h0 : b0 < 256) (h1 : b1 < 256) (h2 : b2 < 256) (h3 : b3 < 256) : zd n b0 b1 b2 b3 = decodeN n b0 b1 b2 b3 := by
  unfold zd decodeN
  by_cases a0 : b0 < 128
  · rw [if_pos a0, if_pos a0]
  rw [if_neg a0, if_neg a0]
  by_cases c1 : 194 ≤ b0 ∧ b0 ≤ 223
  · rw [if_pos c1]
    by_cases c : 2 ≤ n ∧ 128 ≤ b1 ∧ b1 ≤ 191
    · rw [if_pos c, if_pos (by omega), if_pos (by omega)]
    · rw [if_neg c]
      by_cases d : b0 / 32 = 6 ∧ 1 < n ∧ b1 / 64 = 2
      · exfalso; omega
      · rw [if_neg d, if_neg (by omega), if_neg (by omega)]
  rw [if_neg c1]
  by_cases c2 : 224 ≤ b0 ∧ b0 ≤ 239
  · rw [if_pos c2]
    rw [if_neg (show ¬ (b0 / 32 = 6 ∧ 1 < n ∧ b1 / 64 = 2) by omega)]
    by_cases c : 3 ≤ n ∧ (if b0 = 224 then 160 else 128) ≤ b1 ∧ b1 ≤ (if b0 = 237 then 159 else 191) ∧ 128 ≤ b2 ∧ b2 ≤ 191
    · rw [if_pos c]
      have d : b0 / 16 = 14 ∧ (1 < n ∧ b1 / 64 = 2) ∧ (2 < n ∧ b2 / 64 = 2) := by split at c <;> split at c <;> omega
      rw [if_pos d, if_pos (by split at c <;> split at c <;> omega)]
    · rw [if_neg c]
      by_cases d : b0 / 16 = 14 ∧ (1 < n ∧ b1 / 64 = 2) ∧ (2 < n ∧ b2 / 64 = 2)
      · rw [if_pos d, if_neg (by split at c <;> split at c <;> omega)]
      · rw [if_neg d, if_neg (by omega)]
  rw [if_neg c2]
  by_cases c3 : 240 ≤ b0 ∧ b0 ≤ 244
  · rw [if_pos c3]
    rw [if_neg (show ¬ (b0 / 32 = 6 ∧ 1 < n ∧ b1 / 64 = 2) by omega), if_neg (show ¬ (b0 / 16 = 14 ∧ (1 < n ∧ b1 / 64 = 2) ∧ (2 < n ∧ b2 / 64 = 2)) by omega)]
    by_cases c : 4 ≤ n ∧ (if b0 = 240 then 144 else 128) ≤ b1 ∧ b1 ≤ (if b0 = 244 then 143 else 191) ∧ 128 ≤ b2 ∧ b2 ≤ 191 ∧ 128 ≤ b3 ∧ b3 ≤ 191
    · rw [if_pos c]
      have d : b0 / 8 = 30 ∧ (1 < n ∧ b1 / 64 = 2) ∧ (2 < n ∧ b2 / 64 = 2) ∧ (3 < n ∧ b3 / 64 = 2) := by split at c <;> split at c <;> omega
      rw [if_pos d, if_pos (by split at c <;> split at c <;> omega)]
    · rw [if_neg c]
      by_cases d : b0 / 8 = 30 ∧ (1 < n ∧ b1 / 64 = 2) ∧ (2 < n ∧ b2 / 64 = 2) ∧ (3 < n ∧ b3 / 64 = 2)
      · rw [if_pos d, if_neg (by split at c <;> split at c <;> omega)]
      · rw [if_neg d]
  rw [if_neg c3]
  by_cases d1 : b0 / 32 = 6 ∧ 1 < n ∧ b1 / 64 = 2
  · rw [if_pos d1, if_neg (by omega)]
  rw [if_neg d1, if_neg (by omega)]
  by_cases d3 : b0 / 8 = 30 ∧ (1 < n ∧ b1 / 64 = 2) ∧ (2 < n ∧ b2 / 64 = 2) ∧ (3 < n ∧ b3 / 64 = 2)
  · rw [if_pos d3, if_neg (by omega)]
  · rw [if_neg d3]
open Go in
theorem decode_dz (xs : List Int) (h : AllB xs) (i : Nat) : Utf8.decode (strOfNums xs) i = dz xs i := by
  rw [Lib.decode_at, ← zd_eq _ _ _ _ _ (by rw [str_nb xs h]; exact nb_lt h _) (by rw [str_nb xs h]; exact nb_lt h _) (by rw [str_nb xs h]; exact nb_lt h _) (by rw [str_nb xs h]; exact nb_lt h _), str_nb xs h, str_nb xs h, str_nb xs h, str_nb xs h, strOfNums_size]
  rfl
/-- a row of bytes made a string -/
theorem conv_bytes {w : World} {v : Value} {xs : List Int} (h : Bytes w v xs) : (convert 34 9 v).run Tryd.prog w = .ok (.string (strOfNums xs)) w := by
  obtain ⟨p, c, rfl, hc, hi⟩ := h
  cases p with
  | none =>
    obtain rfl : xs = [] := by
      cases xs with
      | nil => rfl
      | cons x r => obtain ⟨a, ha, _⟩ := hi 0 (by simp); cases ha
    exact run_convert_bytes_nil w 34 5 Tryd.underlying34 Tryd.underlying5 _ _ 9 Tryd.underlying9
  | some a =>
    have hf : (convert 34 9 (.slice (some a) xs.length c)).run Tryd.prog w = (Conv.bytesToString (.slice (some a) xs.length c)).run Tryd.prog w := run_convert_bytes_string w 34 9 5 _ _ _ Tryd.underlying34 Tryd.underlying5 Tryd.underlying9
    have hlc : (loadCells a xs.length).run Tryd.prog w = .ok (xs.map (Value.int .u8)).toArray w := by
      have := run_loadCells_list (P := Tryd.prog) w a (xs.map (Value.int .u8)) (fun j v hj => by
        obtain ⟨hjl, rfl⟩ := cellsB_get xs j v (show (cellsB xs)[j]? = some v from hj)
        obtain ⟨a', ha, hcj⟩ := hi j hjl
        obtain rfl : a' = a := by injection ha with ha; exact ha.symm
        exact hcj)
      simpa using this
    rw [hf, run_bytesToString w a xs.length c xs hlc, foldl_push_bytes]
    simp [strOfNums, ByteArray.empty, ByteArray.emptyWithCapacity]
    rfl
end Go.Proofs.YtlplikpjnocdfaaDoor
