/-
  The pieces of FnCookedIsNilOnBadEscapeRawKept: the lexer's maker, CookedAndRawTemplateContents, the law's small functions.
-/
import Derived.Test.YtcnembabenlheaaDoorT4
import Derived.Test.YtcnembabenlheaaDoorT5
import Derived.Test.YtcnembabenlheaaDoorT6
import Derived.Test.YtcnembabenlheaaDoorT7
import Derived.Deep.QuietTactic
namespace Go.Proofs.YtcnembabenlheaaDoor
open Go.ChangeShapes Go.WideShapes Go.ChangeAt Go.RowKit
set_option linter.unusedVariables false
noncomputable def lexT (tok e : Int) : Array Value := (Tryd.prog.built 106 [(31, .int .u8 2), (32, .int .u8 tok), (19, .int .i64 0), (20, .int .i64 e)]).getD #[]
theorem lexT_68 (tok e : Int) : (lexT tok e)[68]? = some (.int .u8 2) := by kernel_rfl
theorem lexT_69 (tok e : Int) : (lexT tok e)[69]? = some (.int .u8 tok) := by kernel_rfl
theorem lexT_53 (tok e : Int) : (lexT tok e)[53]? = some (.int .i64 0) := by kernel_rfl
theorem lexT_54 (tok e : Int) : (lexT tok e)[54]? = some (.int .i64 e) := by kernel_rfl
theorem lexT_size (tok e : Int) : 14 < (lexT tok e).size := by
  have := (Array.getElem?_eq_some_iff.1 (lexT_68 tok e)).1
  omega
/-- a lexer that stands at one token which is the whole text -/
def TokLex (w : World) (g : Nat) (c : ByteArray) (e tok : Int) : Prop :=
  w.cell? ⟨g, 14, none⟩ = some (.string c) ∧ w.cell? ⟨g, 53, none⟩ = some (.int .i64 0) ∧ w.cell? ⟨g, 54, none⟩ = some (.int .i64 e) ∧ w.cell? ⟨g, 68, none⟩ = some (.int .u8 2) ∧ w.cell? ⟨g, 69, none⟩ = some (.int .u8 tok)
theorem tokLex_new (w : World) (c : ByteArray) (e tok : Int) : TokLex (w.alloc (.cells ((lexT tok e).setIfInBounds 14 (.string c)) 106)) w.heap.size c e tok := by
  have hb := heap_alloc_new w (.cells ((lexT tok e).setIfInBounds 14 (.string c)) 106)
  have hs := lexT_size tok e
  refine ⟨?_, ?_, ?_, ?_, ?_⟩
  · simp only [World.cell?]; rw [hb]; simp [hs]
  · simp only [World.cell?]; rw [hb]; simp [lexT_53]
  · simp only [World.cell?]; rw [hb]; simp [lexT_54]
  · simp only [World.cell?]; rw [hb]; simp [lexT_68]
  · simp only [World.cell?]; rw [hb]; simp [lexT_69]
set_option maxRecDepth 100000 in
set_option maxHeartbeats 4000000 in
theorem ex24 (c : ByteArray) (e tok : Int) (w : World) :
    Calls Tryd.prog 24 #[.string c, .int .i64 0, .int .i64 e, .int .u8 tok] w fun r w' => (∃ g, r = .returned (.pointer (some ⟨g, 0, none⟩)) ∧ TokLex w' g c e tok) ∧ Below w.heap.size w w' := by
  go_enter Tryd.func24, Tryd.ntmps24
  go_wp2_with (refine wpList_buildTo rfl 106 #[(31, .const (.int .u8 2)), (32, .tmp 10), (19, .tmp 11), (20, .tmp 12)] rfl (some 13) rfl (lexT tok e) (by kernel_rfl) ?_)
  go_ret
  exact ⟨⟨_, rfl, tokLex_new w c e tok⟩, (Below.refl w.heap.size w).alloc (Nat.le_refl _) _⟩
theorem below_drew (w : World) : Below w.heap.size w w.drew := ⟨rfl, rfl, rfl, Nat.le_refl _, fun _ _ => rfl⟩
theorem no13 (s : ByteArray) (h : ∀ i, i < s.size → byt s i ≠ 13) : Lib.indexByte s.data.toList (13 : Int).toNat.toUInt8 = -1 := by
  have hge := Lib.indexByte_ge s.data.toList (13 : Int).toNat.toUInt8
  by_cases hneg : Lib.indexByte s.data.toList (13 : Int).toNat.toUInt8 = -1
  · exact hneg
  obtain ⟨o, ho⟩ : ∃ o : Nat, Lib.indexByte s.data.toList (13 : Int).toNat.toUInt8 = o := ⟨(Lib.indexByte s.data.toList (13 : Int).toNat.toUInt8).toNat, by omega⟩
  have h1 := (Lib.indexByte_some ho).1
  have hlt : o < s.size := by
    have := (List.getElem?_eq_some_iff.1 h1).1
    simpa using this
  rw [Lib.data_getElem? s o hlt] at h1
  have h2 := h o hlt
  rw [← byt_at s o hlt] at h2
  exfalso; apply h2
  have h3 : s[o] = (13 : Int).toNat.toUInt8 := by simpa using h1
  rw [h3]; rfl
set_option maxRecDepth 100000 in
set_option maxHeartbeats 4000000 in
theorem cook25 (g : Nat) (c b : ByteArray) (tok : Int) (e : Nat) (k : Nat) (hk : (k = 1 ∧ (tok = 3 ∨ tok = 9)) ∨ (k = 2 ∧ (tok = 7 ∨ tok = 8))) (w : World) (hL : TokLex w g c e tok) (he : c.size = e) (he2 : e ≤ 1048576) (hek : 1 + k ≤ e) (hb : c.extract 1 (e - k) = b) (h13 : ∀ i, i < b.size → byt b i ≠ 13)
    (H : ∀ W, (Below w.heap.size w W) → Calls Tryd.prog 32 #[.pointer (some ⟨g, 0, none⟩), .int .i64 1, .string b, .bool false] W fun e w' => (∃ X, e = .returned (.tuple #[.slice none 0 0, .bool false, .int .i64 X])) ∧ Below W.heap.size W w') :
    Calls Tryd.prog 25 #[.pointer (some ⟨g, 0, none⟩)] w fun e w' => e = .returned (.tuple #[.slice none 0 0, .string b]) ∧ Below w.heap.size w w' := by
  obtain ⟨c1, c2, c3, c4, c5⟩ := hL
  have HI := Lib.hid (no13 b h13); have HH := Lib.hid H; have HB := Lib.hid hb
  clear h13 H hb
  have hm1 : 1 ≤ e - k := by omega
  obtain ⟨E, hE⟩ : ∃ E, e - k = E := ⟨_, rfl⟩
  have hE' : (e : Int) - (k : Int) = (E : Int) := by omega
  have hE2 : E ≤ c.size := by omega
  have hE3 : 1 ≤ E := by omega
  rw [hE] at HB
  clear hE hm1 hek
  subst he
  have f1 : (1 : Int) ≤ (E : Int) := by omega
  have f2 : (E : Int) ≤ (c.size : Int) := by omega
  rcases hk with ⟨rfl, rfl | rfl⟩ | ⟨rfl, rfl | rfl⟩
  · have hE4 : (c.size : Int) - 1 = (E : Int) := by omega
    have hw1 : IntKind.i64.wrap 1 = 1 := by decide
    have hw2 : IntKind.i64.wrap ((c.size : Int) - 1) = (E : Int) := by rw [IntKind.wrap_i64]; omega
    clear hE'
    go_enter Tryd.func25, Tryd.ntmps25
    go_wp2_with fail
    go_region
    go_wp2_with fail
    rw [HB.out]
    refine (Tryd.strings_IndexByte b 13 _).mono ?_
    rintro e w1 ⟨rfl, rfl⟩
    rw [HI.out]
    dsimp only
    go_wp2_with fail
    refine (HH.out w.drew (below_drew w)).mono ?_
    rintro e w1 ⟨⟨X, rfl⟩, be⟩
    have KB := Lib.hid be
    clear be
    dsimp only
    go_wp2_with fail
    go_ret2
    exact ⟨rfl, (below_drew w).trans KB.out⟩
  · have hE4 : (c.size : Int) - 1 = (E : Int) := by omega
    have hw1 : IntKind.i64.wrap 1 = 1 := by decide
    have hw2 : IntKind.i64.wrap ((c.size : Int) - 1) = (E : Int) := by rw [IntKind.wrap_i64]; omega
    clear hE'
    go_enter Tryd.func25, Tryd.ntmps25
    go_wp2_with fail
    go_region
    go_wp2_with fail
    rw [HB.out]
    refine (Tryd.strings_IndexByte b 13 _).mono ?_
    rintro e w1 ⟨rfl, rfl⟩
    rw [HI.out]
    dsimp only
    go_wp2_with fail
    refine (HH.out w.drew (below_drew w)).mono ?_
    rintro e w1 ⟨⟨X, rfl⟩, be⟩
    have KB := Lib.hid be
    clear be
    dsimp only
    go_wp2_with fail
    go_ret2
    exact ⟨rfl, (below_drew w).trans KB.out⟩
  · have hE4 : (c.size : Int) - 2 = (E : Int) := by omega
    have hw1 : IntKind.i64.wrap 1 = 1 := by decide
    have hw2 : IntKind.i64.wrap ((c.size : Int) - 2) = (E : Int) := by rw [IntKind.wrap_i64]; omega
    clear hE'
    go_enter Tryd.func25, Tryd.ntmps25
    go_wp2_with fail
    go_region
    go_wp2_with fail
    rw [HB.out]
    refine (Tryd.strings_IndexByte b 13 _).mono ?_
    rintro e w1 ⟨rfl, rfl⟩
    rw [HI.out]
    dsimp only
    go_wp2_with fail
    refine (HH.out w.drew (below_drew w)).mono ?_
    rintro e w1 ⟨⟨X, rfl⟩, be⟩
    have KB := Lib.hid be
    clear be
    dsimp only
    go_wp2_with fail
    go_ret2
    exact ⟨rfl, (below_drew w).trans KB.out⟩
  · have hE4 : (c.size : Int) - 2 = (E : Int) := by omega
    have hw1 : IntKind.i64.wrap 1 = 1 := by decide
    have hw2 : IntKind.i64.wrap ((c.size : Int) - 2) = (E : Int) := by rw [IntKind.wrap_i64]; omega
    clear hE'
    go_enter Tryd.func25, Tryd.ntmps25
    go_wp2_with fail
    go_region
    go_wp2_with fail
    rw [HB.out]
    refine (Tryd.strings_IndexByte b 13 _).mono ?_
    rintro e w1 ⟨rfl, rfl⟩
    rw [HI.out]
    dsimp only
    go_wp2_with fail
    refine (HH.out w.drew (below_drew w)).mono ?_
    rintro e w1 ⟨⟨X, rfl⟩, be⟩
    have KB := Lib.hid be
    clear be
    dsimp only
    go_wp2_with fail
    go_ret2
    exact ⟨rfl, (below_drew w).trans KB.out⟩
end Go.Proofs.YtcnembabenlheaaDoor
