import Derived.Test.YbulkebzoFmtBody
namespace Go.Proofs.YbulkebzoFmt
open Go.RowKit Go.Extern.Stop Go.Stop Go.Extern Go.Lib
set_option maxRecDepth 100000
set_option linter.unusedVariables false
set_option linter.unusedSimpArgs false

theorem nib_all : ∀ n : Nat, n < 256 → (nibOk (n : Int) = decide ((Hx.rev.data.toList[n]?.getD 255).toNat ≤ 15)) ∧ (nibOk (n : Int) = true → nibV (n : Int) = ((Hx.rev.data.toList[n]?.getD 255).toNat : Int)) := by decide +kernel
theorem nib_v (x : Int) (h0 : 0 ≤ x) (h1 : x < 256) : (nibOk x = true ↔ ¬ 15 < Hx.v (UInt8.ofNat x.toNat)) ∧ (nibOk x = true → nibV x = (Hx.v (UInt8.ofNat x.toNat) : Int)) := by
  obtain ⟨n, rfl⟩ := Int.eq_ofNat_of_zero_le h0
  have hn : n < 256 := by omega
  obtain ⟨h2, h3⟩ := nib_all n hn
  have e : (UInt8.ofNat (n : Int).toNat).toNat = n := by simp; omega
  unfold Hx.v
  rw [e]
  refine ⟨?_, h3⟩
  rw [h2, decide_eq_true_iff]
  omega

theorem hasSuffix10 (l : List UInt8) : Lib.hasSuffix l [10] = true ↔ ∃ t, l = t ++ [10] := by
  unfold Lib.hasSuffix
  rw [List.isSuffixOf_iff_suffix]
  constructor
  · rintro ⟨t, rfl⟩; exact ⟨t, rfl⟩
  · rintro ⟨t, rfl⟩; exact ⟨t, rfl⟩
theorem txt_succ (R : Rd) (n : Nat) : txt R (n + 1) = txt R n ++ [UInt8.ofNat (R.xs n).toNat] := by
  simp [txt, List.range_succ]
/-- What ParseKey is handed, by the last byte. -/
theorem cut_nl (R : Rd) (hL : R.L ≤ 65) (h0 : 0 < R.L) (hx : R.xs (R.L - 1) = 10) : cut R = txt R (R.L - 1) := by
  have e : txt R (min R.L 66) = txt R (R.L - 1) ++ [10] := by
    rw [show min R.L 66 = (R.L - 1) + 1 by omega, txt_succ, hx]
    rfl
  unfold cut Lib.trimSuffix
  rw [if_pos ((hasSuffix10 _).2 ⟨_, e⟩), e]
  simp
theorem cut_no (R : Rd) (hL : R.L ≤ 65) (hr : ∀ i, i < R.L → 0 ≤ R.xs i ∧ R.xs i < 256) (hx : ¬ (0 < R.L ∧ R.xs (R.L - 1) = 10)) : cut R = txt R R.L := by
  unfold cut Lib.trimSuffix
  rw [show min R.L 66 = R.L by omega]
  by_cases h : Lib.hasSuffix (txt R R.L) [10] = true
  · exfalso
    obtain ⟨t, ht⟩ := (hasSuffix10 _).1 h
    have hl : R.L = t.length + 1 := by have := congrArg List.length ht; rw [txt_length] at this; simpa using this
    rw [hl, txt_succ] at ht
    have h1 := List.append_inj_right' ht rfl
    simp at h1
    refine hx ⟨by omega, ?_⟩
    have h2 := hr t.length (by omega)
    rw [show R.L - 1 = t.length by omega]
    have h3 := congrArg UInt8.toNat h1
    simp at h3
    omega
  · rw [if_neg h]
/-- In either case: the first bytes of the data. -/
theorem cut_txt (R : Rd) (hL : R.L ≤ 65) (hr : ∀ i, i < R.L → 0 ≤ R.xs i ∧ R.xs i < 256) : ∃ M, M ≤ R.L ∧ cut R = txt R M := by
  by_cases h : 0 < R.L ∧ R.xs (R.L - 1) = 10
  · exact ⟨R.L - 1, by omega, cut_nl R hL h.1 h.2⟩
  · exact ⟨R.L, Nat.le_refl _, cut_no R hL hr h⟩

theorem byte_or : ∀ h, h < 16 → ∀ l, l < 16 → (UInt8.ofNat (h * 16 + l)).toNat = h * 16 + l := by
  intro h hh l hl
  simp
  omega
end Go.Proofs.YbulkebzoFmt
