/-
  What a string literal's text says, plainly: steps of the decoder, pieces of the encoder.
-/
import Derived.Test.YtemneajjdbbgoaaFmtV0
namespace Go.Proofs.YtemneajjdbbgoaaFmt
open Go.ChangeShapes Go.WideShapes Go.ChangeAt Go.RowKit
open Go.Lib (decodeN decode_at decodeGo)
set_option linter.unusedVariables false
/-- a character that a backslash may stand ahead of, to be itself -/
def isId (c : Nat) : Prop := c ≠ 98 ∧ c ≠ 102 ∧ c ≠ 110 ∧ c ≠ 114 ∧ c ≠ 116 ∧ c ≠ 118 ∧ (c < 48 ∨ 57 < c) ∧ c ≠ 120 ∧ c ≠ 117 ∧ c ≠ 13 ∧ c ≠ 10 ∧ c ≠ 8232 ∧ c ≠ 8233
/-- a letter behind a backslash, and what it stands for -/
def esc1 (c : Nat) (r : Int) : Prop := (c = 98 ∧ r = 8) ∨ (c = 102 ∧ r = 12) ∨ (c = 110 ∧ r = 10) ∨ (c = 114 ∧ r = 13) ∨ (c = 116 ∧ r = 9) ∨ (c = 118 ∧ r = 11)
/-- what a backslash at i may be -/
def OkB (s : ByteArray) (i : Nat) (xs : List Int) (j : Nat) : Prop :=
  (∃ r, esc1 (byt s (i + 1)) r ∧ xs = [r] ∧ j = i + 2) ∨
  (byt s (i + 1) = 120 ∧ i + 4 ≤ s.size ∧ (∀ k, k < 2 → isHx (byt s (i + 2 + k)) = true) ∧ xs = [(vj s (i + 2) 2 : Int)] ∧ j = i + 4) ∨
  (byt s (i + 1) = 117 ∧ i + 6 ≤ s.size ∧ (∀ k, k < 4 → isHx (byt s (i + 2 + k)) = true) ∧ xs = [(vj s (i + 2) 4 : Int)] ∧ j = i + 6) ∨
  (∃ n, 1 ≤ n ∧ n ≤ 7 ∧ i + 4 + n ≤ s.size ∧ byt s (i + 1) = 117 ∧ byt s (i + 2) = 123 ∧ (∀ k, k < n → isHx (byt s (i + 3 + k)) = true) ∧ byt s (i + 3 + n) = 125 ∧ vj s (i + 3) n ≤ 65535 ∧ xs = [(vj s (i + 3) n : Int)] ∧ j = i + 4 + n) ∨
  (byt s (i + 1) = 13 ∧ i + 2 < s.size ∧ byt s (i + 2) = 10 ∧ xs = [] ∧ j = i + 3) ∨
  (byt s (i + 1) = 13 ∧ byt s (i + 2) ≠ 10 ∧ xs = [] ∧ j = i + 2) ∨
  (∃ C K, decodeGo (s.extract (i + 1) s.size) = (C, K) ∧ (C = 10 ∨ C = 8232 ∨ C = 8233) ∧ xs = [] ∧ j = i + 1 + K) ∨
  (∃ C K, decodeGo (s.extract (i + 1) s.size) = (C, K) ∧ isId C ∧ C ≤ 65535 ∧ xs = [(C : Int)] ∧ j = i + 1 + K)
/-- a character that stands for itself -/
def OkA (s : ByteArray) (i : Nat) (xs : List Int) (j : Nat) : Prop :=
  ∃ C K, decodeGo (s.extract i s.size) = (C, K) ∧ C ≤ 65535 ∧ C ≠ 92 ∧ C ≠ 13 ∧ xs = [(C : Int)] ∧ j = i + K
/-- one step: from place i the units xs come, and the place is then j -/
def Ok1 (s : ByteArray) (i : Nat) (xs : List Int) (j : Nat) : Prop := i < j ∧ j ≤ s.size ∧ (OkA s i xs j ∨ (i + 2 ≤ s.size ∧ byt s i = 92 ∧ OkB s i xs j))
inductive Ch32 (s : ByteArray) : Nat → List Int → Prop
  | done : Ch32 s s.size []
  | step (i : Nat) (xs : List Int) (j : Nat) (rest : List Int) : Ok1 s i xs j → Ch32 s j rest → Ch32 s i (xs ++ rest)
theorem Ch32.le {s : ByteArray} {i : Nat} {us : List Int} (h : Ch32 s i us) : i ≤ s.size := by
  cases h with
  | done => exact Nat.le_refl _
  | step _ xs j rest h1 h2 => have := h1.1; have := h1.2.1; omega
theorem Ch32.inv {s : ByteArray} {i : Nat} {us : List Int} (h : Ch32 s i us) : (i = s.size ∧ us = []) ∨ (i < s.size ∧ ∃ xs j rest, Ok1 s i xs j ∧ Ch32 s j rest ∧ us = xs ++ rest) := by
  cases h with
  | done => exact Or.inl ⟨rfl, rfl⟩
  | step _ xs j rest h1 h2 => exact Or.inr ⟨by have := h1.1; have := h1.2.1; omega, xs, j, rest, h1, h2, rfl⟩
/-- the bytes b, wherever they stand (no LF behind them), say the units xs -/
def Pc (b xs : List Int) : Prop := b ≠ [] ∧ b.getD 0 0 ≠ 10 ∧ (∀ x ∈ b, 0 ≤ x ∧ x < 256) ∧ ∀ (s : ByteArray) (i : Nat), i + b.length ≤ s.size → (∀ j, j < b.length → (byt s (i + j) : Int) = b.getD j 0) → byt s (i + b.length) ≠ 10 → Ok1 s i xs (i + b.length)
/-- E is a row of such pieces, that say us -/
def Enc (E us : List Int) : Prop := ∃ ps : List (List Int × List Int), E = (ps.map Prod.fst).flatten ∧ us = (ps.map Prod.snd).flatten ∧ ∀ p ∈ ps, Pc p.1 p.2
theorem Enc.nil : Enc [] [] := ⟨[], rfl, rfl, by simp⟩
theorem Enc.snoc {E us b xs : List Int} (h : Enc E us) (hp : Pc b xs) : Enc (E ++ b) (us ++ xs) := by
  obtain ⟨ps, rfl, rfl, ha⟩ := h
  refine ⟨ps ++ [(b, xs)], by simp, by simp, ?_⟩
  intro p hq
  rw [List.mem_append] at hq
  rcases hq with hq | hq
  · exact ha p hq
  · simp at hq; subst hq; exact hp
theorem byt_nums (xs : List Int) (hx : ∀ x ∈ xs, 0 ≤ x ∧ x < 256) (i : Nat) (h : i < xs.length) : (byt (strOfNums xs) i : Int) = xs.getD i 0 := by
  have hs : i < (strOfNums xs).size := by rw [strOfNums_size]; exact h
  rw [← byt_at _ i hs]
  have e : (strOfNums xs)[i]'hs = UInt8.ofNat (xs[i]'h).toNat := by
    show (strOfNums xs).data[i] = _
    simp [strOfNums]
  rw [e]
  obtain ⟨h0, h1⟩ := hx _ (List.getElem_mem h)
  simp [List.getD, h]
  omega
theorem getD_mid (a e r : List Int) (j : Nat) (h : j < e.length) : (a ++ (e ++ r)).getD (a.length + j) 0 = e.getD j 0 := by
  simp [List.getD, List.getElem?_append_left, List.getElem?_append_right, h]
theorem byt_fin (s : ByteArray) (i : Nat) (h : s.size ≤ i) : byt s i = 0 := by
  have e1 : s.get! i = default := by
    simp only [ByteArray.get!]
    exact getElem!_neg s.data i (by simpa using h)
  unfold byt; rw [e1]; rfl
theorem Pc.chain : ∀ (ps : List (List Int × List Int)) (pre : List Int), (∀ p ∈ ps, Pc p.1 p.2) → (∀ x ∈ pre, 0 ≤ x ∧ x < 256) → Ch32 (strOfNums (pre ++ (ps.map Prod.fst).flatten)) pre.length (ps.map Prod.snd).flatten
  | [], pre, _, hp => by
    have e : (strOfNums (pre ++ (([] : List (List Int × List Int)).map Prod.fst).flatten)).size = pre.length := by rw [strOfNums_size]; simp
    have h := Ch32.done (s := strOfNums (pre ++ (([] : List (List Int × List Int)).map Prod.fst).flatten))
    rw [e] at h; exact h
  | (b, xs) :: ps, pre, ha, hp => by
    obtain ⟨h1, h2, h3, h4⟩ := ha (b, xs) (by simp)
    dsimp only at h1 h2 h3 h4
    have hall : ∀ q ∈ ps, Pc q.1 q.2 := fun q hq => ha q (by simp [hq])
    have hpb : ∀ x ∈ pre ++ b, 0 ≤ x ∧ x < 256 := by
      intro x hx; rw [List.mem_append] at hx
      rcases hx with hx | hx
      · exact hp x hx
      · exact h3 x hx
    have ih := Pc.chain ps (pre ++ b) hall hpb
    have hby : ∀ x ∈ pre ++ (b ++ (ps.map Prod.fst).flatten), 0 ≤ x ∧ x < 256 := by
      intro x hx
      rw [← List.append_assoc, List.mem_append] at hx
      rcases hx with hx | hx
      · exact hpb x hx
      · obtain ⟨l, hl, hxl⟩ := List.mem_flatten.1 hx
        obtain ⟨q, hq, rfl⟩ := List.mem_map.1 hl
        exact (hall q hq).2.2.1 x hxl
    simp only [List.map_cons, List.flatten_cons]
    rw [List.append_assoc] at ih
    obtain ⟨S, hS⟩ : ∃ S, pre ++ (b ++ (ps.map Prod.fst).flatten) = S := ⟨_, rfl⟩
    have hsz : (strOfNums S).size = pre.length + (b.length + (ps.map Prod.fst).flatten.length) := by rw [strOfNums_size, ← hS]; simp
    rw [hS] at ih ⊢
    refine Ch32.step _ xs (pre.length + b.length) _ (h4 _ _ (by omega) ?_ ?_) (by simpa using ih)
    · intro j hj
      rw [byt_nums S (by rw [← hS]; exact hby) _ (by rw [← hS]; simp; omega), ← hS]
      exact getD_mid pre b _ j hj
    · cases ps with
      | nil =>
        rw [byt_fin _ _ (by rw [hsz]; simp)]; decide
      | cons q qs =>
        obtain ⟨g1, g2, g3, _⟩ := hall q (by simp)
        have hl : 0 < q.1.length := List.length_pos_iff.2 g1
        have e : (byt (strOfNums S) (pre.length + b.length) : Int) = q.1.getD 0 0 := by
          rw [byt_nums S (by rw [← hS]; exact hby) _ (by rw [← hS]; simp; omega), ← hS]
          have := getD_mid (pre ++ b) q.1 (qs.map Prod.fst).flatten 0 hl
          simpa [List.append_assoc] using this
        omega
theorem Enc.chain {E us : List Int} (h : Enc E us) : Ch32 (strOfNums E) 0 us := by
  obtain ⟨ps, rfl, rfl, ha⟩ := h
  have := Pc.chain ps [] ha (by simp)
  simpa using this
theorem hdig_all : ∀ up : Bool, ∀ n : Nat, n < 16 → isHx (hdig up (n : Int)).toNat = true ∧ hx (hdig up (n : Int)).toNat = n ∧ 0 ≤ hdig up (n : Int) ∧ hdig up (n : Int) < 256 := by decide
theorem hdig_hx (up : Bool) (d : Int) (h0 : 0 ≤ d) (h1 : d < 16) : isHx (hdig up d).toNat = true ∧ (hx (hdig up d).toNat : Int) = d ∧ 0 ≤ hdig up d ∧ hdig up d < 256 := by
  obtain ⟨n, rfl⟩ : ∃ n : Nat, d = n := ⟨d.toNat, by omega⟩
  obtain ⟨a, b, c, e⟩ := hdig_all up n (by omega)
  exact ⟨a, by omega, c, e⟩
/-- the value of a row of digits -/
def dv (D : List Int) : Nat := D.foldl (fun a d => a * 16 + hx d.toNat) 0
/-- every one is a hexadecimal digit -/
def AllHx (D : List Int) : Prop := ∀ d ∈ D, isHx d.toNat = true ∧ 0 ≤ d ∧ d < 256
theorem vj_dv (s : ByteArray) (i : Nat) (D : List Int) (h : ∀ j, j < D.length → (byt s (i + j) : Int) = D.getD j 0) : ∀ n, n ≤ D.length → vj s i n = dv (D.take n)
  | 0, _ => by simp [vj, dv]
  | n + 1, hn => by
    have hl : n < D.length := by omega
    rw [vj, vj_dv s i D h n (by omega), List.take_add_one]
    have e : D[n]? = some D[n] := List.getElem?_eq_getElem hl
    have hb := h n hl
    have hb2 : byt s (i + n) = (D[n]).toNat := by simp [List.getD, hl] at hb; omega
    rw [e]
    simp only [dv, Option.toList_some, List.foldl_append, List.foldl_cons, List.foldl_nil]
    rw [hb2]
theorem vj_all (s : ByteArray) (i : Nat) (D : List Int) (h : ∀ j, j < D.length → (byt s (i + j) : Int) = D.getD j 0) : vj s i D.length = dv D := by
  rw [vj_dv s i D h D.length (Nat.le_refl _), List.take_length]
theorem hx_at (s : ByteArray) (i : Nat) (D : List Int) (hD : AllHx D) (h : ∀ j, j < D.length → (byt s (i + j) : Int) = D.getD j 0) (k : Nat) (hk : k < D.length) : isHx (byt s (i + k)) = true := by
  have hb := h k hk
  have := hD (D[k]) (List.getElem_mem hk)
  have hb2 : byt s (i + k) = (D[k]).toNat := by simp [List.getD, hk] at hb; omega
  rw [hb2]; exact this.1
theorem mid_at {s : ByteArray} {i : Nat} {a D r : List Int} (h : ∀ j, j < (a ++ (D ++ r)).length → (byt s (i + j) : Int) = (a ++ (D ++ r)).getD j 0) : ∀ j, j < D.length → (byt s (i + a.length + j) : Int) = D.getD j 0 := by
  intro j hj
  rw [Nat.add_assoc, h (a.length + j) (by simp; omega)]
  exact getD_mid a D r j hj
theorem bytes3 {a D r : List Int} (ha : ∀ x ∈ a, 0 ≤ x ∧ x < 256) (hD : AllHx D) (hr : ∀ x ∈ r, 0 ≤ x ∧ x < 256) : ∀ x ∈ a ++ (D ++ r), 0 ≤ x ∧ x < 256 := by
  intro x hx
  rw [List.mem_append, List.mem_append] at hx
  rcases hx with hx | hx | hx
  · exact ha x hx
  · exact (hD x hx).2
  · exact hr x hx
theorem pc_x (D : List Int) (hD : AllHx D) (hl : D.length = 2) : Pc ([92, 120] ++ D) [(dv D : Int)] := by
  refine ⟨by simp, by simp, ?_, ?_⟩
  · have := bytes3 (a := [92, 120]) (D := D) (r := []) (by simp) hD (by simp)
    simpa using this
  · intro s i hs hb _
    have hb' := mid_at (s := s) (i := i) (a := [92, 120]) (D := D) (r := []) (by simpa using hb)
    have e0 := hb 0 (by simp)
    have e1 := hb 1 (by simp)
    simp [hl] at hs e0 e1 hb' ⊢
    have hv := vj_all s (i + 2) D (by intro j hj; exact hb' j (by omega))
    refine ⟨by omega, by omega, Or.inr ⟨by omega, by omega, Or.inr (Or.inl ⟨by omega, by omega, ?_, by rw [← hv, hl], by omega⟩)⟩⟩
    intro k hk
    exact hx_at s (i + 2) D hD (by intro j hj; exact hb' j (by omega)) k (by omega)
theorem pc_u (D : List Int) (hD : AllHx D) (hl : D.length = 4) : Pc ([92, 117] ++ D) [(dv D : Int)] := by
  refine ⟨by simp, by simp, ?_, ?_⟩
  · have := bytes3 (a := [92, 117]) (D := D) (r := []) (by simp) hD (by simp)
    simpa using this
  · intro s i hs hb _
    have hb' := mid_at (s := s) (i := i) (a := [92, 117]) (D := D) (r := []) (by simpa using hb)
    have e0 := hb 0 (by simp)
    have e1 := hb 1 (by simp)
    simp [hl] at hs e0 e1 hb' ⊢
    have hv := vj_all s (i + 2) D (by intro j hj; exact hb' j (by omega))
    refine ⟨by omega, by omega, Or.inr ⟨by omega, by omega, Or.inr (Or.inr (Or.inl ⟨by omega, by omega, ?_, by rw [← hv, hl], by omega⟩))⟩⟩
    intro k hk
    exact hx_at s (i + 2) D hD (by intro j hj; exact hb' j (by omega)) k (by omega)
theorem pc_b (D : List Int) (hD : AllHx D) (h1 : 1 ≤ D.length) (h7 : D.length ≤ 7) (hv7 : dv D ≤ 65535) : Pc ([92, 117, 123] ++ (D ++ [125])) [(dv D : Int)] := by
  refine ⟨by simp, by simp, bytes3 (by simp) hD (by simp), ?_⟩
  intro s i hs hb _
  have hb' := mid_at (s := s) (i := i) (a := [92, 117, 123]) (D := D) (r := [125]) hb
  have e0 := hb 0 (by simp)
  have e1 := hb 1 (by simp)
  have e2 := hb 2 (by simp)
  have e3 := hb (3 + D.length) (by simp; omega)
  have e4 : ([92, 117, 123] ++ (D ++ [125])).getD (3 + D.length) 0 = 125 := by
    simp [Nat.add_comm]
  rw [e4] at e3
  have hlen : ([92, 117, 123] ++ (D ++ [125])).length = D.length + 4 := by simp
  rw [hlen] at hs ⊢
  simp only [List.length_cons, List.length_nil] at hb'
  simp at e0 e1 e2
  have hv := vj_all s (i + 3) D hb'
  refine ⟨by omega, by omega, Or.inr ⟨by omega, by omega, Or.inr (Or.inr (Or.inr (Or.inl ⟨D.length, h1, h7, by omega, by omega, by omega, ?_, ?_, by omega, by rw [← hv], by omega⟩)))⟩⟩
  · intro k hk
    exact hx_at s (i + 3) D hD hb' k hk
  · rw [show i + 3 + D.length = i + (3 + D.length) by omega]; omega
theorem pc_e (c : Nat) (r : Int) (h : esc1 c r) : Pc [92, (c : Int)] [r] := by
  have hc : c < 256 := by unfold esc1 at h; omega
  refine ⟨by simp, by simp, by simp; omega, ?_⟩
  intro s i hs hb _
  have e0 := hb 0 (by simp)
  have e1 := hb 1 (by simp)
  simp at hs e0 e1 ⊢
  have e1' : byt s (i + 1) = c := by omega
  exact ⟨by omega, by omega, Or.inr ⟨by omega, by omega, Or.inl ⟨r, by rw [e1']; exact h, rfl, by omega⟩⟩⟩
theorem pc_lf : Pc [92, 10] [] := by
  refine ⟨by simp, by simp, by simp, ?_⟩
  intro s i hs hb _
  have e0 := hb 0 (by simp)
  have e1 := hb 1 (by simp)
  simp at hs e0 e1 ⊢
  have h := dec_low s (i + 1) (by omega) (by omega)
  refine ⟨by omega, by omega, Or.inr ⟨by omega, by omega, ?_⟩⟩
  refine Or.inr (Or.inr (Or.inr (Or.inr (Or.inr (Or.inr (Or.inl ⟨_, _, h, Or.inl (by omega), rfl, by omega⟩))))))
theorem pc_cr : Pc [92, 13] [] := by
  refine ⟨by simp, by simp, by simp, ?_⟩
  intro s i hs hb hn
  have e0 := hb 0 (by simp)
  have e1 := hb 1 (by simp)
  simp at hs e0 e1 hn ⊢
  refine ⟨by omega, by omega, Or.inr ⟨by omega, by omega, ?_⟩⟩
  exact Or.inr (Or.inr (Or.inr (Or.inr (Or.inr (Or.inl ⟨by omega, hn, rfl, by omega⟩)))))
theorem pc_crlf : Pc [92, 13, 10] [] := by
  refine ⟨by simp, by simp, by simp, ?_⟩
  intro s i hs hb hn
  have e0 := hb 0 (by simp)
  have e1 := hb 1 (by simp)
  have e2 := hb 2 (by simp)
  simp at hs e0 e1 e2 ⊢
  refine ⟨by omega, by omega, Or.inr ⟨by omega, by omega, ?_⟩⟩
  exact Or.inr (Or.inr (Or.inr (Or.inr (Or.inl ⟨by omega, by omega, by omega, rfl, by omega⟩))))
theorem zd_at (s : ByteArray) (i : Nat) (h : i < s.size) : decodeGo (s.extract i s.size) = zd (s.size - i) (byt s i) (byt s (i + 1)) (byt s (i + 2)) (byt s (i + 3)) := by
  rw [dec_at s i h, zd_eq _ _ _ _ _ (byt_lt _ _) (byt_lt _ _) (byt_lt _ _) (byt_lt _ _)]
theorem dec2 (s : ByteArray) (i u : Nat) (h1 : 128 ≤ u) (h2 : u < 2048) (hs : i + 2 ≤ s.size) (e0 : byt s i = 192 + u / 64) (e1 : byt s (i + 1) = 128 + u % 64) : decodeGo (s.extract i s.size) = (u, 2) := by
  rw [zd_at s i (by omega)]
  unfold zd
  rw [if_neg (by omega), if_pos (by omega), if_pos (by omega), e0, e1]
  congr 1
  omega
theorem dec3 (s : ByteArray) (i u : Nat) (h1 : 2048 ≤ u) (h2 : u < 65536) (hsur : u < 55296 ∨ 57343 < u) (hs : i + 3 ≤ s.size) (e0 : byt s i = 224 + u / 4096) (e1 : byt s (i + 1) = 128 + u / 64 % 64) (e2 : byt s (i + 2) = 128 + u % 64) : decodeGo (s.extract i s.size) = (u, 3) := by
  rw [zd_at s i (by omega)]
  unfold zd
  rw [if_neg (by omega), if_neg (by omega), if_pos (by omega), if_pos (by split <;> split <;> omega), e0, e1, e2]
  congr 1
  omega
/-- a code point as UTF-8 -/
def u8s (u : Nat) : List Int := if u < 128 then [(u : Int)] else if u < 2048 then [((192 + u / 64 : Nat) : Int), ((128 + u % 64 : Nat) : Int)] else [((224 + u / 4096 : Nat) : Int), ((128 + u / 64 % 64 : Nat) : Int), ((128 + u % 64 : Nat) : Int)]
theorem u8s_len (u : Nat) : 1 ≤ (u8s u).length ∧ (u8s u).length ≤ 3 := by
  unfold u8s; split
  · simp
  · split <;> simp
theorem u8s_byte (u : Nat) (hu : u < 65536) : ∀ x ∈ u8s u, 0 ≤ x ∧ x < 256 := by
  intro x hx
  unfold u8s at hx
  split at hx
  · simp at hx; omega
  · split at hx
    · simp at hx; omega
    · simp at hx; omega
theorem u8s_dec (s : ByteArray) (i u : Nat) (hu : u < 65536) (hsur : u < 55296 ∨ 57343 < u) (hs : i + (u8s u).length ≤ s.size) (hb : ∀ j, j < (u8s u).length → (byt s (i + j) : Int) = (u8s u).getD j 0) : decodeGo (s.extract i s.size) = (u, (u8s u).length) := by
  unfold u8s at *
  by_cases h1 : u < 128
  · rw [if_pos h1] at hb hs ⊢
    have e0 := hb 0 (by simp)
    simp at e0 hs ⊢
    have := dec_low s i (by omega) (by omega)
    rw [this, show byt s i = u by omega]
  · rw [if_neg h1] at hb hs ⊢
    by_cases h2 : u < 2048
    · rw [if_pos h2] at hb hs ⊢
      have e0 := hb 0 (by simp)
      have e1 := hb 1 (by simp)
      simp at e0 e1 hs ⊢
      exact dec2 s i u (by omega) h2 (by omega) (by omega) (by omega)
    · rw [if_neg h2] at hb hs ⊢
      have e0 := hb 0 (by simp)
      have e1 := hb 1 (by simp)
      have e2 := hb 2 (by simp)
      simp at e0 e1 e2 hs ⊢
      exact dec3 s i u (by omega) hu hsur (by omega) (by omega) (by omega) (by omega)
theorem u8s_head (u : Nat) (h : u ≠ 10) : (u8s u).getD 0 0 ≠ 10 := by
  unfold u8s
  split
  · simp; omega
  · split
    · simp; omega
    · simp; omega
theorem pc_raw (u : Nat) (hu : u < 65536) (hsur : u < 55296 ∨ 57343 < u) (h92 : u ≠ 92) (h13 : u ≠ 13) (h10 : u ≠ 10) : Pc (u8s u) [(u : Int)] := by
  have hl := u8s_len u
  refine ⟨by intro e; rw [e] at hl; simp at hl, u8s_head u h10, u8s_byte u hu, ?_⟩
  intro s i hs hb _
  have := u8s_dec s i u hu hsur hs hb
  exact ⟨by omega, hs, Or.inl ⟨u, _, this, by omega, h92, h13, rfl, rfl⟩⟩
theorem tail_at {s : ByteArray} {i : Nat} {x : Int} {D : List Int} (h : ∀ j, j < (x :: D).length → (byt s (i + j) : Int) = (x :: D).getD j 0) : ∀ j, j < D.length → (byt s (i + 1 + j) : Int) = D.getD j 0 := by
  intro j hj
  have := h (j + 1) (by simp; omega)
  rw [show i + 1 + j = i + (j + 1) by omega, this]
  simp [List.getD]
theorem pc_id (u : Nat) (hu : u < 65536) (hsur : u < 55296 ∨ 57343 < u) (hid : isId u) : Pc (92 :: u8s u) [(u : Int)] := by
  have hl := u8s_len u
  refine ⟨by simp, by simp, ?_, ?_⟩
  · intro x hx
    simp at hx
    rcases hx with rfl | hx
    · omega
    · exact u8s_byte u hu x hx
  · intro s i hs hb _
    have hb' := tail_at hb
    have e0 := hb 0 (by simp)
    have hlen : (92 :: u8s u).length = (u8s u).length + 1 := by simp
    rw [hlen] at hs ⊢
    simp at e0
    have := u8s_dec s (i + 1) u hu hsur (by omega) hb'
    refine ⟨by omega, by omega, Or.inr ⟨by omega, by omega, ?_⟩⟩
    exact Or.inr (Or.inr (Or.inr (Or.inr (Or.inr (Or.inr (Or.inr ⟨u, _, this, hid, by omega, rfl, by omega⟩))))))
theorem pc_sep (u : Nat) (h : u = 8232 ∨ u = 8233) : Pc [92, 226, 128, ((128 + u % 64 : Nat) : Int)] [] := by
  refine ⟨by simp, by simp, ?_, ?_⟩
  · intro x hx; simp at hx; omega
  · intro s i hs hb _
    have e0 := hb 0 (by simp)
    have e1 := hb 1 (by simp)
    have e2 := hb 2 (by simp)
    have e3 := hb 3 (by simp)
    simp at hs e0 e1 e2 e3 ⊢
    have := dec3 s (i + 1) u (by omega) (by omega) (by omega) (by omega) (by omega) (by rw [show i + 1 + 1 = i + 2 by omega]; omega) (by rw [show i + 1 + 2 = i + 3 by omega]; omega)
    refine ⟨by omega, by omega, Or.inr ⟨by omega, by omega, ?_⟩⟩
    exact Or.inr (Or.inr (Or.inr (Or.inr (Or.inr (Or.inr (Or.inl ⟨u, _, this, by omega, rfl, by omega⟩))))))
/-- the lowest n hexadecimal digits of u, the greatest first -/
def hexN (up : Bool) (u : Int) : Nat → List Int
  | 0 => []
  | n + 1 => hdig up (u / 16 ^ n % 16) :: hexN up u n
theorem hexN_len (up : Bool) (u : Int) : ∀ n, (hexN up u n).length = n
  | 0 => rfl
  | n + 1 => by simp [hexN, hexN_len up u n]
theorem hexN_all (up : Bool) (u : Int) : ∀ n, AllHx (hexN up u n)
  | 0 => by intro d hd; simp [hexN] at hd
  | n + 1 => by
    intro d hd
    simp only [hexN, List.mem_cons] at hd
    rcases hd with rfl | hd
    · have := hdig_hx up (u / 16 ^ n % 16) (Int.emod_nonneg _ (by decide)) (Int.emod_lt_of_pos _ (by decide))
      exact ⟨this.1, this.2.2⟩
    · exact hexN_all up u n d hd
theorem hexN_dv (up : Bool) (u : Nat) (n : Nat) (h : n ≤ 4) (hu : u < 16 ^ n) : dv (hexN up u n) = u := by
  have k (j : Nat) : (hx (hdig up ((u : Int) / (16 : Int) ^ j % 16)).toNat) = u / 16 ^ j % 16 := by
    have := (hdig_hx up ((u : Int) / (16 : Int) ^ j % 16) (Int.emod_nonneg _ (by decide)) (Int.emod_lt_of_pos _ (by decide))).2.1
    have e : (u : Int) / (16 : Int) ^ j % 16 = ((u / 16 ^ j % 16 : Nat) : Int) := by simp
    rw [e] at this ⊢
    exact_mod_cast this
  rcases (show n = 0 ∨ n = 1 ∨ n = 2 ∨ n = 3 ∨ n = 4 by omega) with rfl | rfl | rfl | rfl | rfl
  · simp [hexN, dv]; omega
  all_goals
    simp only [hexN, dv, List.foldl_cons, List.foldl_nil, k]
    omega
theorem dv_zeros (z : Nat) (D : List Int) : dv (List.replicate z 48 ++ D) = dv D := by
  induction z with
  | zero => simp
  | succ z ih =>
    rw [List.replicate_succ, List.cons_append]
    have : dv (48 :: (List.replicate z 48 ++ D)) = dv (List.replicate z 48 ++ D) := by
      unfold dv; rw [List.foldl_cons]; rfl
    rw [this, ih]
theorem AllHx.zeros {D : List Int} (h : AllHx D) (z : Nat) : AllHx (List.replicate z 48 ++ D) := by
  intro d hd
  rw [List.mem_append] at hd
  rcases hd with hd | hd
  · rw [List.mem_replicate] at hd
    obtain ⟨_, rfl⟩ := hd
    decide
  · exact h d hd
theorem vj_mono (s : ByteArray) (i : Nat) : ∀ (n k : Nat), k ≤ n → vj s i k ≤ vj s i n
  | 0, k, h => by obtain rfl : k = 0 := by omega
                  exact Nat.le_refl _
  | n + 1, k, h => by
    by_cases hk : k = n + 1
    · rw [hk]; exact Nat.le_refl _
    · have := vj_mono s i n k (by omega)
      rw [vj]; omega
end Go.Proofs.YtemneajjdbbgoaaFmt
