/-
  The walk of FnScanPragmaArgSpanInsideText.
-/
import Derived.Test.YtcnembabenlheaaDoorS2
namespace Go.Proofs.YtcnembabenlheaaDoor
open Go.ChangeShapes Go.WideShapes Go.ChangeAt Go.RowKit
open Go.Lib (decodeN decode_at decodeGo)
set_option linter.unusedVariables false
theorem scan31 (kind : Nat) (hk : kind = 0 ∨ kind = 1) (start : Int) (p t : ByteArray) (w : World) (hT : Lib.Utf8Tabs 0 1 w) (h0 : 0 ≤ start) (h1 : start ≤ 1073741824) (hpt : p.size ≤ t.size) (ht : t.size ≤ 1048576) :
    Calls Tryd.prog 31 #[.int .u8 kind, .int .i64 start, .string p, .string t] w fun e w' => ScanPost kind start p t e ∧ Below w.heap.size w w' := by
  rcases hk with rfl | rfl
  · exact scan31_0 start p t w hT h0 h1 hpt ht
  · exact scan31_1 start p t w hT h0 h1 hpt ht
theorem results_tmp4 {fn : Func} {t u v x : Tmp} (h : fn.results = #[.tmp t, .tmp u, .tmp v, .tmp x]) (tmps : Array Value) (P : Program) (w : World) :
    (results fn tmps).run P w = .ok (.tuple #[tmps.getD t undef, tmps.getD u undef, tmps.getD v undef, tmps.getD x undef]) w := by
  simp [results, h]
theorem below_drewN {B : Nat} {a w : World} (h : Below B a w) (n : Nat) : Below B a (w.drewN n) := h.trans ⟨rfl, rfl, rfl, Nat.le_refl _, fun _ _ => rfl⟩
/-- what the export answers -/
def ExPost (kind : Nat) (start : Int) (p t : ByteArray) (e : Ending) : Prop :=
  (e = .returned (.tuple #[.string ByteArray.empty, .int .i32 0, .int .i32 0, .bool false]) ∧ (kind = 0 → t.size = p.size)) ∨
  ∃ k i : Nat, e = .returned (.tuple #[.string (t.extract (p.size + k) (p.size + k + i)), .int .i32 (start + p.size + k), .int .i32 i, .bool true]) ∧ p.size + k + i ≤ t.size ∧ p.size < t.size ∧ (kind = 0 → k = 0) ∧ (kind ≠ 0 → 1 ≤ k ∧ 1 ≤ i)
set_option maxRecDepth 100000 in
set_option maxHeartbeats 4000000 in
theorem ex10 (kind : Nat) (hk : kind = 0 ∨ kind = 1) (start : Int) (p t : ByteArray) (w : World) (hT : Lib.Utf8Tabs 0 1 w) (h0 : 0 ≤ start) (h1 : start ≤ 1073741824) (hpt : p.size ≤ t.size) (ht : t.size ≤ 1048576) :
    Calls Tryd.prog 10 #[.int .u8 kind, .int .i64 start, .string p, .string t] w fun e w' => ExPost kind start p t e ∧ Below w.heap.size w w' := by
  have HH := Lib.hid (fun W hT => scan31 kind hk start p t W hT h0 h1 hpt ht)
  have HT := Lib.hid hT
  clear hT
  go_enter Tryd.func10, Tryd.ntmps10
  go_wp2_with fail
  refine (HH.out w HT.out).mono ?_
  rintro e w1 ⟨he, be⟩
  have KB := Lib.hid be; have lt := be.size
  clear be
  rcases he with ⟨rfl, hz⟩ | ⟨k, i, rfl, hle, hlt, hk0, hk1⟩
  · dsimp only
    go_wp2_with fail
    go_quiet (fail)
    go_wp2_with fail
    (try simp only [Exit.inBlock, Exit.then])
    refine bodyPost_ret (results_tmp4 rfl _ _ _) rfl ?_
    exact ⟨Or.inl ⟨rfl, hz⟩, below_drewN (KB.out.alloc lt _) _⟩
  · have HB := Lib.hid (And.intro hle (And.intro hlt (And.intro hk0 hk1)))
    clear hle hlt hk0 hk1
    dsimp only
    go_wp2_with fail
    go_quiet (fail)
    go_wp2_with fail
    (try simp only [Exit.inBlock, Exit.then])
    refine bodyPost_ret (results_tmp4 rfl _ _ _) rfl ?_
    exact ⟨Or.inr ⟨k, i, rfl, HB.out⟩, below_drewN (KB.out.alloc lt _) _⟩
set_option maxRecDepth 100000 in
set_option maxHeartbeats 4000000 in
theorem sw9 (s p : ByteArray) (w : World) (hs : s.size ≤ 1048576) (hp : p.size ≤ 1048576) : Calls Tryd.prog 9 #[.string s, .string p] w fun e w' => (∃ b, e = .returned (.bool b) ∧ (b = true → p.size ≤ s.size)) ∧ w = w' := by
  by_cases h : p.size ≤ s.size
  · go_enter Tryd.func9, Tryd.ntmps9
    go_wp2_with fail
    go_ret
    exact ⟨⟨_, rfl, fun _ => h⟩, rfl⟩
  · go_enter Tryd.func9, Tryd.ntmps9
    go_wp2_with fail
    go_ret
    exact ⟨⟨false, rfl, fun h => by cases h⟩, rfl⟩
set_option maxRecDepth 100000 in
theorem ref11 (w : World) : Calls Tryd.prog 11 #[.string ByteArray.empty, .int .i32 0, .int .i32 0, .bool false] w fun e w' => e = .returned (.bool true) ∧ w = w' := by
  go_enter Tryd.func11, Tryd.ntmps11
  go_wp2_with fail
  go_ret
  exact ⟨rfl, rfl⟩
theorem zb8 (kind start : Int) (p t : ByteArray) (w : World) : Calls Tryd.prog 8 #[.int .u8 kind, .int .i64 start, .string p, .string t] w fun e w' => (∃ b, e = .returned (.bool b) ∧ (b = true → p.size + t.size ≤ 1048576)) ∧ w = w' := by
  by_cases h1 : p.size ≤ 1048576
  · by_cases h2 : t.size ≤ 1048576
    · by_cases h3 : p.size + t.size ≤ 1048576
      · go_enter Tryd.func8, Tryd.ntmps8
        go_wp2_with fail
        go_ret
        exact ⟨⟨true, rfl, fun _ => h3⟩, rfl⟩
      · go_enter Tryd.func8, Tryd.ntmps8
        go_wp2_with fail
        go_ret
        exact ⟨⟨false, rfl, fun h => by cases h⟩, rfl⟩
    · go_enter Tryd.func8, Tryd.ntmps8
      go_wp2_with fail
      go_ret
      exact ⟨⟨false, rfl, fun h => by cases h⟩, rfl⟩
  · go_enter Tryd.func8, Tryd.ntmps8
    go_wp2_with fail
    go_ret
    exact ⟨⟨false, rfl, fun h => by cases h⟩, rfl⟩
set_option maxRecDepth 100000 in
set_option maxHeartbeats 4000000 in
theorem FnScanPragmaArgSpanInsideText_walk (a0 : Int) (a1 : Int) (a2 : ByteArray) (a3 : ByteArray) (w0 : (Lit.int .u8 a0).wf = true) (w1 : (Lit.int .i64 a1).wf = true) (w2 : a2.size ≤ maxLen) (w3 : a3.size ≤ maxLen) (w : World) (hT : Lib.Utf8Tabs 0 1 w) :
    Calls Tryd.prog 3 #[.int .u8 a0, .int .i64 a1, .string a2, .string a3] w fun e w' => e = .returned (.bool true) ∧ Below w.heap.size w w' := by
  have HT := Lib.hid hT
  clear hT
  have hk0 : 0 ≤ a0 := by
    simp only [Lit.wf, Bool.and_eq_true, decide_eq_true_eq] at w0
    have e1 : IntKind.u8.min = 0 := by decide
    omega
  clear w0 w1 w2 w3
  go_enter Tryd.func3, Tryd.ntmps3
  go_wp2_with fail
  refine (zb8 a0 a1 a2 a3 w).mono ?_
  rintro e w1 ⟨⟨b, rfl, hb⟩, rfl⟩
  cases b
  · dsimp only
    go_wp2_with fail
    go_ret
    exact ⟨rfl, Below.refl _ _⟩
  have hsz := hb rfl
  clear hb
  dsimp only
  by_cases c1 : 1 < a0
  · go_wp2_with fail
    go_ret
    exact ⟨rfl, Below.refl _ _⟩
  by_cases c2 : a1 < 0
  · go_wp2_with fail
    go_ret
    exact ⟨rfl, Below.refl _ _⟩
  by_cases c3 : 1073741824 < a1
  · go_wp2_with fail
    go_ret
    exact ⟨rfl, Below.refl _ _⟩
  obtain ⟨kind, rfl⟩ : ∃ kind : Nat, a0 = kind := ⟨a0.toNat, by omega⟩
  have hkind : kind = 0 ∨ kind = 1 := by omega
  go_wp2_with fail
  refine (sw9 a3 a2 w (by omega) (by omega)).mono ?_
  rintro e w1 ⟨⟨b, rfl, hb⟩, rfl⟩
  cases b
  · dsimp only
    go_wp2_with fail
    go_ret
    exact ⟨rfl, Below.refl _ _⟩
  have hle := hb rfl
  clear hb
  dsimp only
  go_wp2_with fail
  refine (ex10 kind hkind a1 a2 a3 w HT.out (by omega) (by omega) hle (by omega)).mono ?_
  rintro e w2 ⟨he, be⟩
  have KB := Lib.hid be
  clear be HT
  rcases he with ⟨rfl, hz⟩ | ⟨k, i, rfl, h1, h2, h3, h4⟩
  · dsimp only
    rcases hkind with rfl | rfl
    · have hee := ext_empty a3 a2.size (by have := hz rfl; omega)
      clear hz hk0 c1
      go_wp2_with fail
      refine (ref11 w2).mono ?_
      rintro e w3 ⟨rfl, rfl⟩
      dsimp only
      go_wp2_with fail
      go_ret
      exact ⟨rfl, KB.out⟩
    · clear hz hk0 c1
      go_wp2_with fail
      refine (ref11 w2).mono ?_
      rintro e w3 ⟨rfl, rfl⟩
      dsimp only
      go_wp2_with fail
      go_ret
      exact ⟨rfl, KB.out⟩
  · dsimp only
    have hne := ext_not_empty a3 a2.size h2
    obtain ⟨o, ho⟩ : ∃ o, a2.size + k = o := ⟨_, rfl⟩
    have ho' : a1 + (a2.size : Int) + (k : Int) = a1 + (o : Int) := by omega
    obtain ⟨G, hG⟩ : ∃ G : Int, a1 + (o : Int) = G := ⟨_, rfl⟩
    have hG2 : G - a1 = (o : Int) := by omega
    have hG3 : 0 ≤ G := by omega
    have hG4 : G ≤ 1075838976 := by omega
    rw [ho, ho', hG]
    clear hG
    obtain ⟨E, hE⟩ : ∃ E, o + i = E := ⟨_, rfl⟩
    have hoi : (o : Int) + (i : Int) = (E : Int) := by omega
    rw [hE]
    obtain ⟨Z, hZ⟩ : ∃ Z, a3.extract o E = Z := ⟨_, rfl⟩
    have hZs : Z.size = i := by rw [← hZ]; simp; omega
    rw [hZ]
    have HZ := Lib.hid hZ
    clear hZ
    have e1 : a2.size ≤ o := by omega
    have e2 : E ≤ a3.size := by omega
    have e2b : o ≤ E := by omega
    have e2c : o + i ≤ a3.size := by omega
    clear hE
    clear ho' h1 h2
    rcases hkind with rfl | rfl
    · have hk := h3 rfl
      subst hk
      clear h3 h4 hk0 c1
      have e3 : ((o : Int) == (a2.size : Int)) = true := by simp; omega
      clear ho
      go_wp2_with (first | rw [HZ.out] | fail)
      go_ret
      exact ⟨rfl, KB.out⟩
    · obtain ⟨e4, e5⟩ := h4 (by omega)
      clear h3 h4 hk0 c1
      have e6 : a2.size < o := by omega
      clear ho
      go_wp2_with (first | rw [HZ.out] | fail)
      go_ret
      refine ⟨congrArg Ending.returned (congrArg Value.bool ?_), KB.out⟩
      first | rfl | (simp; omega)
end Go.Proofs.YtcnembabenlheaaDoor
