import Derived.PlainAid
namespace Go.Proofs.Qxb6606017aFmt
open Go.PlainAid

/-! ### The plain side: bytes by their places ('bt s k': byte k of s, 0 behind the end). -/

/-- The XML 1.0 production NameStartChar. -/
def xStart (r : Int) : Bool :=
  decide (r = 58) || decide (65 ≤ r ∧ r ≤ 90) || decide (r = 95) || decide (97 ≤ r ∧ r ≤ 122) || decide (192 ≤ r ∧ r ≤ 214) || decide (216 ≤ r ∧ r ≤ 246) || decide (248 ≤ r ∧ r ≤ 767) ||
    decide (880 ≤ r ∧ r ≤ 893) || decide (895 ≤ r ∧ r ≤ 8191) || decide (8204 ≤ r ∧ r ≤ 8205) || decide (8304 ≤ r ∧ r ≤ 8591) || decide (11264 ≤ r ∧ r ≤ 12271) || decide (12289 ≤ r ∧ r ≤ 55295) ||
    decide (63744 ≤ r ∧ r ≤ 64975) || decide (65008 ≤ r ∧ r ≤ 65533) || decide (65536 ≤ r ∧ r ≤ 983039)
/-- NameChar. -/
def xChar (r : Int) : Bool :=
  xStart r || decide (r = 45) || decide (r = 46) || decide (48 ≤ r ∧ r ≤ 57) || decide (r = 183) || decide (768 ≤ r ∧ r ≤ 879) || decide (8255 ≤ r ∧ r ≤ 8256)
/-- Char. -/
def xAny (r : Int) : Bool :=
  decide (r = 9) || decide (r = 10) || decide (r = 13) || decide (32 ≤ r ∧ r ≤ 55295) || decide (57344 ≤ r ∧ r ≤ 65533) || decide (65536 ≤ r ∧ r ≤ 1114111)

/-- isASCIINameChar. -/
def ascNm (c : Int) : Bool :=
  decide (97 ≤ c ∧ c ≤ 122) || decide (65 ≤ c ∧ c ≤ 90) || decide (48 ≤ c ∧ c ≤ 57) || decide (c = 95 ∨ c = 58 ∨ c = 45 ∨ c = 46)
/-- isNameStartChar. -/
def nmStart (r : Int) : Bool :=
  decide (192 ≤ r ∧ r ≤ 767 ∧ r ≠ 215 ∧ r ≠ 247) || decide (880 ≤ r ∧ r ≤ 8191 ∧ r ≠ 894) || decide (r = 8204 ∨ r = 8205) || decide (8304 ≤ r ∧ r ≤ 8591) ||
    decide (11264 ≤ r ∧ r ≤ 12271) || decide (12289 ≤ r ∧ r ≤ 55295) || decide (63744 ≤ r ∧ r ≤ 64975) || decide (65008 ≤ r ∧ r ≤ 65533) || decide (65536 ≤ r ∧ r ≤ 983039)
/-- isNameChar. -/
def nmChar (r : Int) : Bool := nmStart r || decide (r = 183) || decide (768 ≤ r ∧ r ≤ 879) || decide (r = 8255 ∨ r = 8256)
/-- isChar. -/
def isCh (r : Int) : Bool := decide (r = 9 ∨ r = 10 ∨ r = 13) || decide (32 ≤ r ∧ (r ≤ 55295 ∨ (57344 ≤ r ∧ r ≤ 65533) ∨ (65536 ≤ r ∧ r ≤ 1114111)))
def isSp (c : Int) : Bool := decide (c = 32 ∨ c = 9 ∨ c = 13 ∨ c = 10)

theorem isCh_eq (r : Int) : isCh r = xAny r := by rw [Bool.eq_iff_iff]; simp [isCh, xAny]; omega
theorem nmStart_eq (r : Int) (h : 128 ≤ r) : nmStart r = xStart r := by rw [Bool.eq_iff_iff]; simp [nmStart, xStart]; omega
theorem nmChar_eq (r : Int) (h : 128 ≤ r) : nmChar r = xChar r := by
  unfold nmChar xChar; rw [nmStart_eq r h, Bool.eq_iff_iff]; cases xStart r <;> simp <;> omega
theorem xStart_char (r : Int) (h : xStart r = true) : xChar r = true := by simp [xChar, h]
/-- May an ASCII byte not open a name, though it may go on in one? -/
def noOpen (c : Int) : Bool := decide (48 ≤ c ∧ c ≤ 57) || decide (c = 45) || decide (c = 46)
theorem asc_start (c : Int) (h : c < 128) : xStart c = (ascNm c && !noOpen c) := by rw [Bool.eq_iff_iff]; simp [xStart, ascNm, noOpen]; omega
theorem asc_char (c : Int) (h : c < 128) : xChar c = ascNm c := by rw [Bool.eq_iff_iff]; simp [xChar, xStart, ascNm]; omega

/-- The decoding of Table 3-7: the rune, its width, was it well formed? -/
def dec (s : ByteArray) (i : Nat) : Int × Nat × Bool :=
  if bt s i < 128 then (bt s i, 1, true)
  else if 194 ≤ bt s i ∧ bt s i ≤ 223 then
    if 128 ≤ bt s (i + 1) ∧ bt s (i + 1) ≤ 191 then (bt s i % 32 * 64 + bt s (i + 1) % 64, 2, true) else (0, 1, false)
  else if 224 ≤ bt s i ∧ bt s i ≤ 239 then
    if (bt s i = 224 → 160 ≤ bt s (i + 1)) ∧ (bt s i = 237 → bt s (i + 1) ≤ 159) ∧ 128 ≤ bt s (i + 1) ∧ bt s (i + 1) ≤ 191 ∧ 128 ≤ bt s (i + 2) ∧ bt s (i + 2) ≤ 191
    then (bt s i % 16 * 4096 + bt s (i + 1) % 64 * 64 + bt s (i + 2) % 64, 3, true) else (0, 1, false)
  else if 240 ≤ bt s i ∧ bt s i ≤ 244 then
    if (bt s i = 240 → 144 ≤ bt s (i + 1)) ∧ (bt s i = 244 → bt s (i + 1) ≤ 143) ∧ 128 ≤ bt s (i + 1) ∧ bt s (i + 1) ≤ 191 ∧ 128 ≤ bt s (i + 2) ∧ bt s (i + 2) ≤ 191 ∧ 128 ≤ bt s (i + 3) ∧ bt s (i + 3) ≤ 191
    then (bt s i % 8 * 262144 + bt s (i + 1) % 64 * 4096 + bt s (i + 2) % 64 * 64 + bt s (i + 3) % 64, 4, true) else (0, 1, false)
  else (0, 1, false)

theorem bt_lt_of_ne (s : ByteArray) {k : Nat} (h : 1 ≤ bt s k) : k < s.size := by
  rcases Nat.lt_or_ge k s.size with h1 | h1
  · exact h1
  · rw [bt_end s h1] at h; omega

/-- What is decoded lies within the text. -/
theorem dec_fits (s : ByteArray) (i : Nat) (h : i < s.size) : 1 ≤ (dec s i).2.1 ∧ i + (dec s i).2.1 ≤ s.size := by
  have l1 := @bt_lt_of_ne s (i + 1); have l2 := @bt_lt_of_ne s (i + 2); have l3 := @bt_lt_of_ne s (i + 3)
  unfold dec
  split
  · exact ⟨by simp, by simp; omega⟩
  split
  · split
    · have := l1 (by omega); exact ⟨by simp, by simp; omega⟩
    · exact ⟨by simp, by simp; omega⟩
  split
  · split
    · have := l2 (by omega); exact ⟨by simp, by simp; omega⟩
    · exact ⟨by simp, by simp; omega⟩
  split
  · split
    · have := l3 (by omega); exact ⟨by simp, by simp; omega⟩
    · exact ⟨by simp, by simp; omega⟩
  · exact ⟨by simp, by simp; omega⟩

theorem dec_asc (s : ByteArray) (i : Nat) (h : bt s i < 128) : dec s i = (bt s i, 1, true) := by unfold dec; rw [if_pos h]
/-- Beyond ASCII: a rune from U+0080 on, two bytes or more; or none. -/
theorem dec_high (s : ByteArray) (i : Nat) (h : ¬ bt s i < 128) : (dec s i = (0, 1, false)) ∨ ((dec s i).2.2 = true ∧ 128 ≤ (dec s i).1 ∧ (dec s i).1 ≤ 1114111 ∧ 2 ≤ (dec s i).2.1 ∧ (dec s i).2.1 ≤ 4) := by
  have b0 := bt_le s i
  unfold dec
  rw [if_neg h]
  split
  · split
    · right; refine ⟨rfl, ?_, ?_, by simp, by simp⟩ <;> (simp only []; omega)
    · left; rfl
  split
  · split
    · right
      refine ⟨rfl, ?_, ?_, by simp, by simp⟩
      · simp only []; omega
      · simp only []; omega
    · left; rfl
  split
  · split
    · right
      refine ⟨rfl, ?_, ?_, by simp, by simp⟩
      · simp only []; omega
      · simp only []; omega
    · left; rfl
  · left; rfl

/-! ### A walk by steps: from 'a' on, 'g i' tells how far it goes on from place i; it ends at the text's end or where g says none. -/
def steps (g : Nat → Option Nat) (n a : Nat) : Nat → Option Nat
  | 0 => some a
  | m + 1 => match steps g n a m with
    | none => none
    | some i => if i < n then (g i).map (i + ·) else none
def Stops (g : Nat → Option Nat) (n a e : Nat) : Prop := (∃ m, steps g n a m = some e) ∧ (n ≤ e ∨ g e = none)

theorem steps_next {g : Nat → Option Nat} {n a m i z : Nat} (h : steps g n a m = some i) (hi : i < n) (hz : g i = some z) : steps g n a (m + 1) = some (i + z) := by
  simp [steps, h, hi, hz]
theorem steps_none {g : Nat → Option Nat} {n a e : Nat} (h : n ≤ e ∨ g e = none) {m : Nat} (hm : steps g n a m = some e) : ∀ j, steps g n a (m + 1 + j) = none
  | 0 => by
    simp only [steps, hm]
    rcases h with h | h
    · rw [if_neg (by omega)]
    · by_cases hl : e < n
      · rw [if_pos hl, h]; rfl
      · rw [if_neg hl]
  | j + 1 => by
    have := steps_none h hm j
    show steps g n a ((m + 1 + j) + 1) = none
    simp [steps, this]
theorem Stops.unique {g : Nat → Option Nat} {n a e e' : Nat} (h : Stops g n a e) (h' : Stops g n a e') : e = e' := by
  obtain ⟨⟨m, hm⟩, hs⟩ := h
  obtain ⟨⟨m', hm'⟩, hs'⟩ := h'
  rcases Nat.lt_trichotomy m m' with hl | hl | hl
  · have := steps_none hs hm (m' - m - 1)
    rw [show m + 1 + (m' - m - 1) = m' by omega, hm'] at this; cases this
  · subst hl; rw [hm] at hm'; exact Option.some.inj hm'
  · have := steps_none hs' hm' (m - m' - 1)
    rw [show m' + 1 + (m - m' - 1) = m by omega, hm] at this; cases this
/-- A walk whose steps are of one place or more, and stay within the text, comes to an end. -/
theorem Stops.exists {g : Nat → Option Nat} {n a : Nat} (ha : a ≤ n) (hg : ∀ i z, i < n → g i = some z → 1 ≤ z ∧ i + z ≤ n) : ∃ e, Stops g n a e ∧ a ≤ e ∧ e ≤ n := by
  have key : ∀ d i m, n - i ≤ d → i ≤ n → a ≤ i → steps g n a m = some i → ∃ e, Stops g n a e ∧ a ≤ e ∧ e ≤ n := by
    intro d
    induction d with
    | zero => exact fun i m hd hi hai hm => ⟨i, ⟨⟨m, hm⟩, Or.inl (by omega)⟩, hai, hi⟩
    | succ d ih =>
      intro i m hd hi hai hm
      by_cases hl : i < n
      · cases hz : g i with
        | none => exact ⟨i, ⟨⟨m, hm⟩, Or.inr hz⟩, hai, hi⟩
        | some z =>
          obtain ⟨h1, h2⟩ := hg i z hl hz
          exact ih (i + z) (m + 1) (by omega) h2 (by omega) (steps_next hm hl hz)
      · exact ⟨i, ⟨⟨m, hm⟩, Or.inl (by omega)⟩, hai, hi⟩
  exact key (n - a) a 0 (Nat.le_refl _) ha (Nat.le_refl _) rfl

theorem if_some {b : Bool} {x z : Nat} (h : (if b then some x else none) = some z) : b = true ∧ z = x := by
  cases b
  · cases h
  · exact ⟨rfl, (Option.some.inj h).symm⟩
/-- A name's step: from place i; 'a' is where the name opens. -/
def nstep (s : ByteArray) (a i : Nat) : Option Nat :=
  if (dec s i).2.2 && (if i = a then xStart (dec s i).1 else xChar (dec s i).1) then some (dec s i).2.1 else none
theorem nstep_fits (s : ByteArray) (a i z : Nat) (h : i < s.size) (hz : nstep s a i = some z) : 1 ≤ z ∧ i + z ≤ s.size := by
  obtain ⟨_, rfl⟩ := if_some hz
  exact dec_fits s i h
/-- A text's step. -/
def cstep (s : ByteArray) (i : Nat) : Option Nat := if (dec s i).2.2 && xAny (dec s i).1 then some (dec s i).2.1 else none
theorem cstep_fits (s : ByteArray) (i z : Nat) (h : i < s.size) (hz : cstep s i = some z) : 1 ≤ z ∧ i + z ≤ s.size := by
  obtain ⟨_, rfl⟩ := if_some hz
  exact dec_fits s i h
theorem nstep_asc (s : ByteArray) (a i : Nat) (h : bt s i < 128) : nstep s a i = if ascNm (bt s i) && !(decide (i = a) && noOpen (bt s i)) then some 1 else none := by
  unfold nstep
  rw [dec_asc s i h]
  simp only [Bool.true_and]
  by_cases e : i = a
  · rw [if_pos e, asc_start _ h]; simp [e]
  · rw [if_neg e, asc_char _ h]; simp [e]
end Go.Proofs.Qxb6606017aFmt
