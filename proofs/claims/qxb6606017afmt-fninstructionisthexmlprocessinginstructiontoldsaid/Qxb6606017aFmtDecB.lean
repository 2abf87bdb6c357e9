import Derived.Test.Qxb6606017aFmtDec
namespace Go.Proofs.Qxb6606017aFmt
open Go.PlainAid

theorem cstep_asc (t : ByteArray) (i : Nat) (h : bt t i < 128) : cstep t i = if xAny (bt t i) then some 1 else none := by
  unfold cstep
  rw [dec_asc t i h]
  simp only [Bool.true_and]
/-- A text's step beyond ASCII, as the parser takes it. -/
theorem high_text (t : ByteArray) (i : Nat) (hi : i < t.size) (h : ¬ bt t i < 128) : ∃ r k : Nat, Lib.decodeGo (t.extract i t.size) = (r, k) ∧ 1 ≤ k ∧ k ≤ 4 ∧ i + k ≤ t.size ∧ r ≤ 1114111 ∧
    ((2 ≤ k ∧ isCh r = true ∧ cstep t i = some k) ∨ (r = 65533 ∧ k = 1 ∧ cstep t i = none) ∨ (2 ≤ k ∧ isCh r = false ∧ cstep t i = none)) := by
  have he := decode_eq t i hi
  have hf := dec_fits t i hi
  rcases dec_high t i h with hd | ⟨ok, r1, r2, k1, k2⟩
  · refine ⟨65533, 1, ?_, by omega, by omega, by omega, by omega, Or.inr (Or.inl ⟨rfl, rfl, ?_⟩)⟩
    · rw [he, hd]; rfl
    · unfold cstep; rw [hd]; rfl
  · refine ⟨(dec t i).1.toNat, (dec t i).2.1, ?_, by omega, k2, hf.2, by omega, ?_⟩
    · rw [he, if_pos ok]
    have er : (((dec t i).1.toNat : Nat) : Int) = (dec t i).1 := by omega
    rw [er, isCh_eq]
    unfold cstep
    rw [ok]
    simp only [Bool.true_and]
    cases hx : xAny (dec t i).1
    · exact Or.inr (Or.inr ⟨k1, rfl, rfl⟩)
    · exact Or.inl ⟨k1, rfl, rfl⟩
end Go.Proofs.Qxb6606017aFmt
