/-
  Token.DecodedText at the eight tokens of FnDecodedTextOfEscapeFreeTokens.
-/
import Derived.Test.YtcnembabenlheaaDoorT26
import Derived.Test.YtcnembabenlheaaDoorT27
namespace Go.Proofs.YtcnembabenlheaaDoor
open Go.ChangeShapes Go.WideShapes Go.ChangeAt Go.RowKit
open Go.Lib (encodeRuneZ encodeRuneZ_length)
set_option linter.unusedVariables false
theorem nil_app (b : ByteArray) : (⟨#[]⟩ : ByteArray) ++ b = b := by
  apply ByteArray.ext; simp
theorem app_nil (b : ByteArray) : b ++ (⟨#[]⟩ : ByteArray) = b := by
  apply ByteArray.ext; simp
theorem str_sn (xs : List Int) (a : List UInt8) (h : (xs.map fun n => UInt8.ofNat n.toNat) = a) : strOfNums xs = ⟨a.toArray⟩ := by
  rw [← h]; rfl
theorem enc_asc (c : Int) (h0 : 0 ≤ c) (h1 : c ≤ 127) : encodeRuneZ c = [c] := by
  have h := (isW_rng c)
  unfold encodeRuneZ
  simp
  omega
theorem tk_id (a0 a2 BD : ByteArray) (rs : List Int) (hBD : strOfNums (encs rs) = BD) (h92 : ∀ r ∈ rs, r ≠ 92) (hlen : rs.length ≤ 65536) (p1 : a0.size ≤ 262144) (p2 : a2.size ≤ 262144) (hb : BD.size ≤ 262144) (AL : ByteArray) (hAL : strOfNums (encs (rs.map clean)) = AL) (w : World) (hT : Lib.Utf8Tabs 0 1 w) (ln : Int) (hln : ln = ((BD.size + 0 : Nat) : Int)) :
    Calls Tryd.prog 30 #[.agg #[.int .i32 (a0.size : Int), .int .i32 ln, .int .u16 0, .int .u8 29, .int .u8 0], .string (a0 ++ ⟨#[]⟩ ++ BD ++ ⟨#[]⟩ ++ a2)] w fun e w' => e = .returned (.string AL) ∧ Below w.heap.size w w' := by
  subst hln
  have so : (⟨#[]⟩ : ByteArray).size = 0 := rfl
  have sc : (⟨#[]⟩ : ByteArray).size = 0 := rfl
  have hsz : (a0 ++ ⟨#[]⟩ ++ BD ++ ⟨#[]⟩ ++ a2).size = a0.size + 0 + BD.size + 0 + a2.size := by
    simp only [ByteArray.size_append]; omega
  have hR := cutR a0 ⟨#[]⟩ BD ⟨#[]⟩ a2 a0.size (a0.size + (BD.size + 0)) rfl (by omega)
  refine dt30_id (a0 ++ ⟨#[]⟩ ++ BD ++ ⟨#[]⟩ ++ a2) (⟨#[]⟩ ++ BD ++ ⟨#[]⟩) a0.size (BD.size + 0) (a0.size + (BD.size + 0)) 0 29 0 (Or.inl rfl) (by rw [hsz]; omega) rfl (by rw [hsz]; omega) hR w hT AL (fun W hW => by rw [← hAL, nil_app, app_nil]; exact de35 rs h92 (by omega) BD hBD (by omega) W hW)
theorem tk_dim (a0 a2 BD : ByteArray) (rs : List Int) (hBD : strOfNums (encs rs) = BD) (h92 : ∀ r ∈ rs, r ≠ 92) (hlen : rs.length ≤ 65536) (p1 : a0.size ≤ 262144) (p2 : a2.size ≤ 262144) (hb : BD.size ≤ 262144) (AL : ByteArray) (hAL : strOfNums (encs (rs.map clean)) = AL) (w : World) (hT : Lib.Utf8Tabs 0 1 w) (ln : Int) (hln : ln = ((BD.size + 1 : Nat) : Int)) :
    Calls Tryd.prog 30 #[.agg #[.int .i32 (a0.size : Int), .int .i32 ln, .int .u16 0, .int .u8 26, .int .u8 0], .string (a0 ++ ⟨#[51]⟩ ++ BD ++ ⟨#[]⟩ ++ a2)] w fun e w' => e = .returned (.string (⟨#[51]⟩ ++ AL)) ∧ Below w.heap.size w w' := by
  subst hln
  have so : (⟨#[51]⟩ : ByteArray).size = 1 := rfl
  have sc : (⟨#[]⟩ : ByteArray).size = 0 := rfl
  have hsz : (a0 ++ ⟨#[51]⟩ ++ BD ++ ⟨#[]⟩ ++ a2).size = a0.size + 1 + BD.size + 0 + a2.size := by
    simp only [ByteArray.size_append]; omega
  have hR := cutR a0 ⟨#[51]⟩ BD ⟨#[]⟩ a2 a0.size (a0.size + (BD.size + 1)) rfl (by omega)
  have e1 : strOfNums (encs (51 :: rs)) = ⟨#[51]⟩ ++ BD := by
    rw [encs_cons, str_app, hBD]; rfl
  have e2 : strOfNums (encs ((51 :: rs).map clean)) = ⟨#[51]⟩ ++ AL := by
    rw [List.map_cons, encs_cons, str_app, hAL]; rfl
  have h93 : ∀ r ∈ (51 : Int) :: rs, r ≠ 92 := by
    intro r hr
    rcases List.mem_cons.1 hr with rfl | hr
    · decide
    · exact h92 r hr
  refine dt30_id (a0 ++ ⟨#[51]⟩ ++ BD ++ ⟨#[]⟩ ++ a2) (⟨#[51]⟩ ++ BD ++ ⟨#[]⟩) a0.size (BD.size + 1) (a0.size + (BD.size + 1)) 0 26 0 (Or.inr rfl) (by rw [hsz]; omega) rfl (by rw [hsz]; omega) hR w hT (⟨#[51]⟩ ++ AL) (fun W hW => by rw [← e2, app_nil]; exact de35 (51 :: rs) h93 (by simp; omega) _ e1 (by rw [ByteArray.size_append, so]; omega) W hW)
theorem cutI (o b c : ByteArray) : (o ++ b ++ c).extract o.size (o.size + b.size) = b := by
  have h := cutR o ⟨#[]⟩ b ⟨#[]⟩ c o.size (o.size + b.size) rfl (by have hz : (⟨#[]⟩ : ByteArray).size = 0 := rfl; omega)
  rw [app_nil, app_nil, nil_app, app_nil] at h
  exact h
theorem tk_hash (a0 a2 BD : ByteArray) (rs : List Int) (hBD : strOfNums (encs rs) = BD) (h92 : ∀ r ∈ rs, r ≠ 92) (hlen : rs.length ≤ 65536) (p1 : a0.size ≤ 262144) (p2 : a2.size ≤ 262144) (hb : BD.size ≤ 262144) (AL : ByteArray) (hAL : strOfNums (encs (rs.map clean)) = AL) (w : World) (hT : Lib.Utf8Tabs 0 1 w) (ln : Int) (hln : ln = ((BD.size + 1 : Nat) : Int)) :
    Calls Tryd.prog 30 #[.agg #[.int .i32 (a0.size : Int), .int .i32 ln, .int .u16 0, .int .u8 28, .int .u8 0], .string (a0 ++ ⟨#[35]⟩ ++ BD ++ ⟨#[]⟩ ++ a2)] w fun e w' => e = .returned (.string AL) ∧ Below w.heap.size w w' := by
  subst hln
  have so : (⟨#[35]⟩ : ByteArray).size = 1 := rfl
  have sc : (⟨#[]⟩ : ByteArray).size = 0 := rfl
  have hsz : (a0 ++ ⟨#[35]⟩ ++ BD ++ ⟨#[]⟩ ++ a2).size = a0.size + 1 + BD.size + 0 + a2.size := by
    simp only [ByteArray.size_append]; omega
  have hR := cutR a0 ⟨#[35]⟩ BD ⟨#[]⟩ a2 a0.size (a0.size + (BD.size + 1)) rfl (by omega)
  have hI : (⟨#[35]⟩ ++ BD ++ ⟨#[]⟩ : ByteArray).extract 1 (1 + BD.size) = BD := by
    have h := cutI ⟨#[35]⟩ BD ⟨#[]⟩
    rw [so] at h; exact h
  refine dt30_one (a0 ++ ⟨#[35]⟩ ++ BD ++ ⟨#[]⟩ ++ a2) (⟨#[35]⟩ ++ BD ++ ⟨#[]⟩) a0.size (BD.size + 1) (a0.size + (BD.size + 1)) 0 28 0 (by decide) (by rw [hsz]; omega) rfl (by rw [hsz]; omega) hR w hT AL BD (1 + BD.size) (by simp only [ByteArray.size_append]; omega) (by omega) (by omega) hI (fun W hW => by rw [← hAL]; exact de35 rs h92 (by omega) BD hBD (by omega) W hW)
theorem tk_at (a0 a2 BD : ByteArray) (rs : List Int) (hBD : strOfNums (encs rs) = BD) (h92 : ∀ r ∈ rs, r ≠ 92) (hlen : rs.length ≤ 65536) (p1 : a0.size ≤ 262144) (p2 : a2.size ≤ 262144) (hb : BD.size ≤ 262144) (AL : ByteArray) (hAL : strOfNums (encs (rs.map clean)) = AL) (w : World) (hT : Lib.Utf8Tabs 0 1 w) (ln : Int) (hln : ln = ((BD.size + 1 : Nat) : Int)) :
    Calls Tryd.prog 30 #[.agg #[.int .i32 (a0.size : Int), .int .i32 ln, .int .u16 0, .int .u8 1, .int .u8 0], .string (a0 ++ ⟨#[64]⟩ ++ BD ++ ⟨#[]⟩ ++ a2)] w fun e w' => e = .returned (.string AL) ∧ Below w.heap.size w w' := by
  subst hln
  have so : (⟨#[64]⟩ : ByteArray).size = 1 := rfl
  have sc : (⟨#[]⟩ : ByteArray).size = 0 := rfl
  have hsz : (a0 ++ ⟨#[64]⟩ ++ BD ++ ⟨#[]⟩ ++ a2).size = a0.size + 1 + BD.size + 0 + a2.size := by
    simp only [ByteArray.size_append]; omega
  have hR := cutR a0 ⟨#[64]⟩ BD ⟨#[]⟩ a2 a0.size (a0.size + (BD.size + 1)) rfl (by omega)
  have hI : (⟨#[64]⟩ ++ BD ++ ⟨#[]⟩ : ByteArray).extract 1 (1 + BD.size) = BD := by
    have h := cutI ⟨#[64]⟩ BD ⟨#[]⟩
    rw [so] at h; exact h
  refine dt30_one (a0 ++ ⟨#[64]⟩ ++ BD ++ ⟨#[]⟩ ++ a2) (⟨#[64]⟩ ++ BD ++ ⟨#[]⟩) a0.size (BD.size + 1) (a0.size + (BD.size + 1)) 0 1 0 (by decide) (by rw [hsz]; omega) rfl (by rw [hsz]; omega) hR w hT AL BD (1 + BD.size) (by simp only [ByteArray.size_append]; omega) (by omega) (by omega) hI (fun W hW => by rw [← hAL]; exact de35 rs h92 (by omega) BD hBD (by omega) W hW)
theorem tk_fn (a0 a2 BD : ByteArray) (rs : List Int) (hBD : strOfNums (encs rs) = BD) (h92 : ∀ r ∈ rs, r ≠ 92) (hlen : rs.length ≤ 65536) (p1 : a0.size ≤ 262144) (p2 : a2.size ≤ 262144) (hb : BD.size ≤ 262144) (AL : ByteArray) (hAL : strOfNums (encs (rs.map clean)) = AL) (w : World) (hT : Lib.Utf8Tabs 0 1 w) (ln : Int) (hln : ln = ((BD.size + 1 : Nat) : Int)) :
    Calls Tryd.prog 30 #[.agg #[.int .i32 (a0.size : Int), .int .i32 ln, .int .u16 0, .int .u8 27, .int .u8 0], .string (a0 ++ ⟨#[]⟩ ++ BD ++ ⟨#[40]⟩ ++ a2)] w fun e w' => e = .returned (.string AL) ∧ Below w.heap.size w w' := by
  subst hln
  have so : (⟨#[]⟩ : ByteArray).size = 0 := rfl
  have sc : (⟨#[40]⟩ : ByteArray).size = 1 := rfl
  have hsz : (a0 ++ ⟨#[]⟩ ++ BD ++ ⟨#[40]⟩ ++ a2).size = a0.size + 0 + BD.size + 1 + a2.size := by
    simp only [ByteArray.size_append]; omega
  have hR := cutR a0 ⟨#[]⟩ BD ⟨#[40]⟩ a2 a0.size (a0.size + (BD.size + 1)) rfl (by omega)
  have hI : (⟨#[]⟩ ++ BD ++ ⟨#[40]⟩ : ByteArray).extract 0 BD.size = BD := by
    have h := cutI ⟨#[]⟩ BD ⟨#[40]⟩
    rw [so, Nat.zero_add] at h; exact h
  refine dt30_fn (a0 ++ ⟨#[]⟩ ++ BD ++ ⟨#[40]⟩ ++ a2) (⟨#[]⟩ ++ BD ++ ⟨#[40]⟩) a0.size (BD.size + 1) (a0.size + (BD.size + 1)) 0 27 0 rfl (by rw [hsz]; omega) rfl (by rw [hsz]; omega) hR w hT AL BD (BD.size + 1) BD.size (by simp only [ByteArray.size_append]; omega) rfl (by omega) hI (fun W hW => by rw [← hAL]; exact de35 rs h92 (by omega) BD hBD (by omega) W hW)
theorem tk_str (a0 a2 BD : ByteArray) (rs : List Int) (hBD : strOfNums (encs rs) = BD) (h92 : ∀ r ∈ rs, r ≠ 92) (hlen : rs.length ≤ 65536) (p1 : a0.size ≤ 262144) (p2 : a2.size ≤ 262144) (hb : BD.size ≤ 262144) (AL : ByteArray) (hAL : strOfNums (encs (rs.map clean)) = AL) (w : World) (hT : Lib.Utf8Tabs 0 1 w) (ln : Int) (hln : ln = ((BD.size + 2 : Nat) : Int)) :
    Calls Tryd.prog 30 #[.agg #[.int .i32 (a0.size : Int), .int .i32 ln, .int .u16 0, .int .u8 36, .int .u8 0], .string (a0 ++ ⟨#[39]⟩ ++ BD ++ ⟨#[39]⟩ ++ a2)] w fun e w' => e = .returned (.string AL) ∧ Below w.heap.size w w' := by
  subst hln
  have so : (⟨#[39]⟩ : ByteArray).size = 1 := rfl
  have sc : (⟨#[39]⟩ : ByteArray).size = 1 := rfl
  have hsz : (a0 ++ ⟨#[39]⟩ ++ BD ++ ⟨#[39]⟩ ++ a2).size = a0.size + 1 + BD.size + 1 + a2.size := by
    simp only [ByteArray.size_append]; omega
  have hR := cutR a0 ⟨#[39]⟩ BD ⟨#[39]⟩ a2 a0.size (a0.size + (BD.size + 2)) rfl (by omega)
  have hI : (⟨#[39]⟩ ++ BD ++ ⟨#[39]⟩ : ByteArray).extract 1 (1 + BD.size) = BD := by
    have h := cutI ⟨#[39]⟩ BD ⟨#[39]⟩
    rw [so] at h; exact h
  refine dt30_str (a0 ++ ⟨#[39]⟩ ++ BD ++ ⟨#[39]⟩ ++ a2) (⟨#[39]⟩ ++ BD ++ ⟨#[39]⟩) a0.size (BD.size + 2) (a0.size + (BD.size + 2)) 0 36 0 rfl (by rw [hsz]; omega) rfl (by rw [hsz]; omega) hR w hT AL BD (1 + BD.size + 1) (1 + BD.size) (by simp only [ByteArray.size_append]; omega) rfl (by omega) (by omega) hI (fun W hW => by rw [← hAL]; exact de35 rs h92 (by omega) BD hBD (by omega) W hW)
theorem tk_un (a0 a2 BD : ByteArray) (rs : List Int) (hBD : strOfNums (encs rs) = BD) (h92 : ∀ r ∈ rs, r ≠ 92) (hlen : rs.length ≤ 65536) (p1 : a0.size ≤ 262144) (p2 : a2.size ≤ 262144) (hb : BD.size ≤ 262144) (AL : ByteArray) (hAL : strOfNums (encs (rs.map clean)) = AL) (w : World) (hT : Lib.Utf8Tabs 0 1 w) (ln : Int) (hln : ln = ((BD.size + 1 : Nat) : Int)) :
    Calls Tryd.prog 30 #[.agg #[.int .i32 (a0.size : Int), .int .i32 ln, .int .u16 0, .int .u8 2, .int .u8 0], .string (a0 ++ ⟨#[34]⟩ ++ BD ++ ⟨#[]⟩ ++ a2)] w fun e w' => e = .returned (.string (⟨#[34]⟩ ++ BD)) ∧ Below w.heap.size w w' := by
  subst hln
  have so : (⟨#[34]⟩ : ByteArray).size = 1 := rfl
  have sc : (⟨#[]⟩ : ByteArray).size = 0 := rfl
  have hsz : (a0 ++ ⟨#[34]⟩ ++ BD ++ ⟨#[]⟩ ++ a2).size = a0.size + 1 + BD.size + 0 + a2.size := by
    simp only [ByteArray.size_append]; omega
  have hR := cutR a0 ⟨#[34]⟩ BD ⟨#[]⟩ a2 a0.size (a0.size + (BD.size + 1)) rfl (by omega)
  have h := dt30_un (a0 ++ ⟨#[34]⟩ ++ BD ++ ⟨#[]⟩ ++ a2) (⟨#[34]⟩ ++ BD ++ ⟨#[]⟩) a0.size (BD.size + 1) (a0.size + (BD.size + 1)) 0 2 0 rfl (by rw [hsz]; omega) rfl (by rw [hsz]; omega) hR w hT
  rw [app_nil (⟨#[34]⟩ ++ BD)] at h
  exact h
theorem tk_url (a0 a2 BD : ByteArray) (rs : List Int) (hBD : strOfNums (encs rs) = BD) (h92 : ∀ r ∈ rs, r ≠ 92) (hlen : rs.length ≤ 65536) (p1 : a0.size ≤ 262144) (p2 : a2.size ≤ 262144) (hb : BD.size ≤ 262144) (AL : ByteArray) (A M Z : List Int) (hrs : rs = A ++ M ++ Z) (hA : ∀ r ∈ A, isW r = true) (hZ : ∀ r ∈ Z, isW r = true) (hMZ : (M = [] ∧ Z = []) ∨ ((∃ m M', M = m :: M' ∧ isW m = false) ∧ ∃ M' m, M = M' ++ [m] ∧ isW m = false)) (hAL : strOfNums (encs (M.map clean)) = AL) (w : World) (hT : Lib.Utf8Tabs 0 1 w) (ln : Int) (hln : ln = ((BD.size + 5 : Nat) : Int)) :
    Calls Tryd.prog 30 #[.agg #[.int .i32 (a0.size : Int), .int .i32 ln, .int .u16 0, .int .u8 37, .int .u8 0], .string (a0 ++ ⟨#[117, 114, 108, 40]⟩ ++ BD ++ ⟨#[41]⟩ ++ a2)] w fun e w' => e = .returned (.string AL) ∧ Below w.heap.size w w' := by
  subst hln
  have so : (⟨#[117, 114, 108, 40]⟩ : ByteArray).size = 4 := rfl
  have sc : (⟨#[41]⟩ : ByteArray).size = 1 := rfl
  have hsz : (a0 ++ ⟨#[117, 114, 108, 40]⟩ ++ BD ++ ⟨#[41]⟩ ++ a2).size = a0.size + 4 + BD.size + 1 + a2.size := by
    simp only [ByteArray.size_append]; omega
  have hR := cutR a0 ⟨#[117, 114, 108, 40]⟩ BD ⟨#[41]⟩ a2 a0.size (a0.size + (BD.size + 5)) rfl (by omega)
  obtain ⟨n, hn⟩ : ∃ n, n = 5 + A.length + (encs M).length + Z.length := ⟨_, rfl⟩
  have hRR : strOfNums ([117, 114, 108, 40] ++ encs (A ++ M ++ Z) ++ [41]) = ⟨#[117, 114, 108, 40]⟩ ++ BD ++ ⟨#[41]⟩ := by
    rw [str_app, str_app, ← hrs, hBD]; rfl
  have hnE : n = BD.size + 5 := by
    rw [hn, ← hBD, strOfNums_size, hrs, encs_app, encs_app, encs_W A hA, encs_W Z hZ]; simp; omega
  obtain ⟨f1, f2, f3, f4, f5, f6, f7, f8⟩ := url_facts A M Z hA hZ hMZ _ hRR n _ _ _ hn rfl rfl rfl
  have h93 : ∀ r ∈ M, r ≠ 92 := fun r hr => h92 r (by rw [hrs]; simp [hr])
  have hMl : M.length ≤ rs.length := by rw [hrs]; simp; omega
  subst hn
  refine dt30_url (a0 ++ ⟨#[117, 114, 108, 40]⟩ ++ BD ++ ⟨#[41]⟩ ++ a2) (⟨#[117, 114, 108, 40]⟩ ++ BD ++ ⟨#[41]⟩) a0.size (BD.size + 5) (a0.size + (BD.size + 5)) 0 37 0 rfl (by rw [hsz]; omega) rfl (by rw [hsz]; omega) hR w hT AL (strOfNums (encs M)) (5 + A.length + (encs M).length + Z.length) A.length (encs M).length Z.length f1 rfl (by rw [hnE]; omega) f2 f3 f4 f5 f6 f7 f8 (fun W hW => by rw [← hAL]; exact de35 M h93 (by omega) _ rfl (by rw [strOfNums_size]; omega) W hW)
end Go.Proofs.YtcnembabenlheaaDoor
