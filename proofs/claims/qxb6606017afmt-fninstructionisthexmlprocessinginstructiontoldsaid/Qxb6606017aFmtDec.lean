import Derived.Test.Qxb6606017aFmtPlain
import Derived.Shelf.Unicode.DecodeSlow
namespace Go.Proofs.Qxb6606017aFmt
open Go.PlainAid

theorem ext_get (s : ByteArray) (i k : Nat) (hi : i ≤ s.size) : (((s.extract i s.size).get! k).toNat : Int) = bt s (i + k) := by
  have hz : (s.extract i s.size).size = s.size - i := by simp
  unfold bt
  by_cases h : i + k < s.size
  · rw [dif_pos h]
    have hk : k < (s.extract i s.size).size := by omega
    have e : (s.extract i s.size).get! k = (s.extract i s.size)[k] := by
      show (s.extract i s.size).data[k]! = _
      rw [getElem!_pos (s.extract i s.size).data k (by exact hk)]; rfl
    rw [e]
    simp [ByteArray.getElem_extract]
  · rw [dif_neg h]
    have : (s.extract i s.size).get! k = 0 := by
      show (s.extract i s.size).data[k]! = _
      rw [getElem!_neg (s.extract i s.size).data k (by show ¬ k < (s.extract i s.size).size; omega)]; rfl
    rw [this]; rfl

/-- The decoder over four bytes, plain numbers. -/
theorem dec_core (n i x0 x1 x2 x3 : Nat) (r0 r1 r2 r3 : Int) (h : i < n) (g0 : (x0 : Int) = r0) (g1 : (x1 : Int) = r1) (g2 : (x2 : Int) = r2) (g3 : (x3 : Int) = r3)
    (b0 : x0 ≤ 255) (b1 : x1 ≤ 255) (b2 : x2 ≤ 255) (b3 : x3 ≤ 255) (z1 : n ≤ i + 1 → x1 = 0) (z2 : n ≤ i + 2 → x2 = 0) (z3 : n ≤ i + 3 → x3 = 0) (d : Int × Nat × Bool)
    (hd : d = if r0 < 128 then (r0, 1, true)
      else if 194 ≤ r0 ∧ r0 ≤ 223 then if 128 ≤ r1 ∧ r1 ≤ 191 then (r0 % 32 * 64 + r1 % 64, 2, true) else (0, 1, false)
      else if 224 ≤ r0 ∧ r0 ≤ 239 then if (r0 = 224 → 160 ≤ r1) ∧ (r0 = 237 → r1 ≤ 159) ∧ 128 ≤ r1 ∧ r1 ≤ 191 ∧ 128 ≤ r2 ∧ r2 ≤ 191 then (r0 % 16 * 4096 + r1 % 64 * 64 + r2 % 64, 3, true) else (0, 1, false)
      else if 240 ≤ r0 ∧ r0 ≤ 244 then if (r0 = 240 → 144 ≤ r1) ∧ (r0 = 244 → r1 ≤ 143) ∧ 128 ≤ r1 ∧ r1 ≤ 191 ∧ 128 ≤ r2 ∧ r2 ≤ 191 ∧ 128 ≤ r3 ∧ r3 ≤ 191 then (r0 % 8 * 262144 + r1 % 64 * 4096 + r2 % 64 * 64 + r3 % 64, 4, true) else (0, 1, false)
      else (0, 1, false)) :
    (if x0 < 128 then (x0, 1)
      else if (x0 / 32 == 6 && (decide (1 < n - i) && x1 / 64 == 2)) = true then
        if x0 % 32 * 64 + x1 % 64 ≥ 128 then (x0 % 32 * 64 + x1 % 64, 2) else (65533, 1)
      else if (x0 / 16 == 14 && (decide (1 < n - i) && x1 / 64 == 2) && (decide (2 < n - i) && x2 / 64 == 2)) = true then
        if (decide (x0 % 16 * 4096 + x1 % 64 * 64 + x2 % 64 ≥ 2048) && Utf8.valid ((x0 % 16 * 4096 + x1 % 64 * 64 + x2 % 64 : Nat) : Int)) = true then (x0 % 16 * 4096 + x1 % 64 * 64 + x2 % 64, 3) else (65533, 1)
      else if (x0 / 8 == 30 && (decide (1 < n - i) && x1 / 64 == 2) && (decide (2 < n - i) && x2 / 64 == 2) && (decide (3 < n - i) && x3 / 64 == 2)) = true then
        if (decide (x0 % 8 * 262144 + x1 % 64 * 4096 + x2 % 64 * 64 + x3 % 64 ≥ 65536) && Utf8.valid ((x0 % 8 * 262144 + x1 % 64 * 4096 + x2 % 64 * 64 + x3 % 64 : Nat) : Int)) = true then (x0 % 8 * 262144 + x1 % 64 * 4096 + x2 % 64 * 64 + x3 % 64, 4) else (65533, 1)
      else (65533, 1)) = if d.2.2 then (d.1.toNat, d.2.1) else (65533, 1) := by
  have c1 : (decide (1 < n - i) && x1 / 64 == 2) = decide (128 ≤ x1 ∧ x1 ≤ 191) := by rw [Bool.eq_iff_iff]; simp; omega
  have c2 : (decide (2 < n - i) && x2 / 64 == 2) = decide (128 ≤ x2 ∧ x2 ≤ 191) := by rw [Bool.eq_iff_iff]; simp; omega
  have c3 : (decide (3 < n - i) && x3 / 64 == 2) = decide (128 ≤ x3 ∧ x3 ≤ 191) := by rw [Bool.eq_iff_iff]; simp; omega
  rw [c1, c2, c3]
  clear c1 c2 c3 z1 z2 z3 h
  by_cases h1 : x0 < 128
  · rw [if_pos (by omega)] at hd; subst hd; rw [if_pos h1]; simp; omega
  rw [if_neg (by omega)] at hd; rw [if_neg h1]
  by_cases h2 : 194 ≤ x0 ∧ x0 ≤ 223
  · rw [if_pos (by omega)] at hd
    by_cases h3 : 128 ≤ x1 ∧ x1 ≤ 191
    · rw [if_pos (by omega)] at hd; subst hd
      rw [if_pos (by simp; omega), if_pos (by omega), if_pos rfl]; simp; omega
    · rw [if_neg (by omega)] at hd; subst hd
      rw [if_neg (by simp; omega), if_neg (by simp; omega), if_neg (by simp; omega), if_neg (by simp)]
  rw [if_neg (by omega)] at hd
  by_cases h4 : 224 ≤ x0 ∧ x0 ≤ 239
  · rw [if_pos (by omega)] at hd
    rw [if_neg (by simp; omega)]
    by_cases h5 : (128 ≤ x1 ∧ x1 ≤ 191) ∧ 128 ≤ x2 ∧ x2 ≤ 191
    · rw [if_pos (by simp; omega)]
      by_cases h6 : (x0 = 224 → 160 ≤ x1) ∧ (x0 = 237 → x1 ≤ 159)
      · rw [if_pos (by omega)] at hd; subst hd
        rw [if_pos (by simp [Utf8.valid]; omega), if_pos rfl]; simp; omega
      · rw [if_neg (by omega)] at hd; subst hd
        rw [if_neg (by simp [Utf8.valid]; omega), if_neg (by simp)]
    · rw [if_neg (by omega)] at hd; subst hd
      rw [if_neg (by simp; omega), if_neg (by simp; omega), if_neg (by simp)]
  rw [if_neg (by omega)] at hd
  by_cases h7 : 240 ≤ x0 ∧ x0 ≤ 244
  · rw [if_pos (by omega)] at hd
    rw [if_neg (by simp; omega), if_neg (by simp; omega)]
    by_cases h5 : (128 ≤ x1 ∧ x1 ≤ 191) ∧ (128 ≤ x2 ∧ x2 ≤ 191) ∧ 128 ≤ x3 ∧ x3 ≤ 191
    · rw [if_pos (by simp; omega)]
      by_cases h6 : (x0 = 240 → 144 ≤ x1) ∧ (x0 = 244 → x1 ≤ 143)
      · rw [if_pos (by omega)] at hd; subst hd
        rw [if_pos (by simp [Utf8.valid]; omega), if_pos rfl]; simp; omega
      · rw [if_neg (by omega)] at hd; subst hd
        rw [if_neg (by simp [Utf8.valid]; omega), if_neg (by simp)]
    · rw [if_neg (by omega)] at hd; subst hd
      rw [if_neg (by simp; omega), if_neg (by simp)]
  rw [if_neg (by omega)] at hd
  subst hd
  show _ = ((65533, 1) : Nat × Nat)
  by_cases h8 : (x0 / 32 == 6 && decide (128 ≤ x1 ∧ x1 ≤ 191)) = true
  · rw [if_pos h8]; simp at h8; rw [if_neg (by omega)]
  rw [if_neg h8, if_neg (by simp; omega)]
  by_cases h9 : (x0 / 8 == 30 && decide (128 ≤ x1 ∧ x1 ≤ 191) && decide (128 ≤ x2 ∧ x2 ≤ 191) && decide (128 ≤ x3 ∧ x3 ≤ 191)) = true
  · rw [if_pos h9]; simp at h9; rw [if_neg (by simp [Utf8.valid]; omega)]
  · rw [if_neg h9]

theorem decode_eq (s : ByteArray) (i : Nat) (h : i < s.size) : Lib.decodeGo (s.extract i s.size) = if (dec s i).2.2 then ((dec s i).1.toNat, (dec s i).2.1) else (65533, 1) := by
  have hz : (s.extract i s.size).size = s.size - i := by simp
  have g0 := ext_get s i 0 (by omega)
  rw [Nat.add_zero] at g0
  have z0 : ∀ k, s.size ≤ i + k → ((s.extract i s.size).get! k).toNat = 0 := fun k hk => by have := ext_get s i k (by omega); rw [bt_end s hk] at this; omega
  have bl : ∀ k, ((s.extract i s.size).get! k).toNat ≤ 255 := fun k => by have := ((s.extract i s.size).get! k).toNat_lt; omega
  have key := dec_core s.size i _ _ _ _ _ _ _ _ h g0 (ext_get s i 1 (by omega)) (ext_get s i 2 (by omega)) (ext_get s i 3 (by omega)) (bl 0) (bl 1) (bl 2) (bl 3) (z0 1) (z0 2) (z0 3) (dec s i) rfl
  unfold Lib.decodeGo
  rw [if_neg (by omega), ← key, ← hz]
  unfold Utf8.decode
  simp only [Nat.zero_add, Utf8.runeError]

/-- A name's step beyond ASCII, as the parser takes it. -/
theorem high_cases (s : ByteArray) (a i : Nat) (hi : i < s.size) (h : ¬ bt s i < 128) : ∃ r k : Nat, Lib.decodeGo (s.extract i s.size) = (r, k) ∧ 1 ≤ k ∧ k ≤ 4 ∧ i + k ≤ s.size ∧ r ≤ 1114111 ∧
    ((2 ≤ k ∧ nmChar r = true ∧ (i = a → nmStart r = true) ∧ nstep s a i = some k) ∨ (r = 65533 ∧ k = 1 ∧ nstep s a i = none) ∨
     (2 ≤ k ∧ nmChar r = false ∧ nstep s a i = none) ∨ (2 ≤ k ∧ nmChar r = true ∧ i = a ∧ nmStart r = false ∧ nstep s a i = none)) := by
  have he := decode_eq s i hi
  have hf := dec_fits s i hi
  rcases dec_high s i h with hd | ⟨ok, r1, r2, k1, k2⟩
  · refine ⟨65533, 1, ?_, by omega, by omega, by omega, by omega, Or.inr (Or.inl ⟨rfl, rfl, ?_⟩)⟩
    · rw [he, hd]; rfl
    · unfold nstep; rw [hd]; rfl
  · refine ⟨(dec s i).1.toNat, (dec s i).2.1, ?_, by omega, k2, hf.2, by omega, ?_⟩
    · rw [he, if_pos ok]
    have er : (((dec s i).1.toNat : Nat) : Int) = (dec s i).1 := by omega
    rw [er, nmChar_eq _ r1, nmStart_eq _ r1]
    unfold nstep
    rw [ok]
    by_cases ha : i = a
    · simp only [ha, if_true, Bool.true_and]
      rw [ha] at k1
      cases hs : xStart (dec s a).1
      · cases hx : xChar (dec s a).1
        · exact Or.inr (Or.inr (Or.inl ⟨k1, rfl, rfl⟩))
        · exact Or.inr (Or.inr (Or.inr ⟨k1, rfl, trivial, rfl, rfl⟩))
      · exact Or.inl ⟨k1, xStart_char _ hs, fun _ => rfl, rfl⟩
    · simp only [ha, if_false, Bool.true_and]
      cases hx : xChar (dec s i).1
      · exact Or.inr (Or.inr (Or.inl ⟨k1, rfl, rfl⟩))
      · exact Or.inl ⟨k1, rfl, fun h => h.elim, rfl⟩
end Go.Proofs.Qxb6606017aFmt
