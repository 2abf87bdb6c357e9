import Derived.Test.Qxb6606017aFmtAt
namespace Go.Proofs.Qxb6606017aFmt
open Go.RowKit Go.PlainAid

/-! ### Bytes of joined and of cut texts -/
theorem bt_list (s : ByteArray) (k : Nat) : bt s k = match s.data.toList[k]? with | some x => (x.toNat : Int) | none => 0 := by
  rcases Nat.lt_or_ge k s.size with h | h
  · rw [← get_bt s k h, List.getElem?_eq_getElem (by simpa using h)]
    simp [ByteArray.getElem_eq_getElem_data]
  · rw [bt_end s h, List.getElem?_eq_none (by simpa using h)]
theorem bt_append (x y : ByteArray) (k : Nat) : bt (x ++ y) k = if k < x.size then bt x k else bt y (k - x.size) := by
  rw [bt_list, bt_list, bt_list]
  have e : (x ++ y).data.toList = x.data.toList ++ y.data.toList := by simp [ByteArray.data_append]
  have l : x.data.toList.length = x.size := by simp
  rw [e]
  by_cases h : k < x.size
  · rw [if_pos h, List.getElem?_append_left (by omega)]
  · rw [if_neg h, List.getElem?_append_right (by omega), l]
theorem bt_extract (s : ByteArray) (a b k : Nat) (hb : b ≤ s.size) : bt (s.extract a b) k = if a + k < b then bt s (a + k) else 0 := by
  by_cases h : a + k < b
  · rw [if_pos h]
    have h1 : k < (s.extract a b).size := by simp; omega
    rw [← get_bt _ k h1, ← get_bt s (a + k) (by omega)]
    rw [ByteArray.getElem_extract]
  · rw [if_neg h]
    exact bt_end _ (by simp; omega)
theorem bytes_ext {x y : ByteArray} (h : x.size = y.size) (hb : ∀ k, k < x.size → bt x k = bt y k) : x = y := by
  apply ByteArray.ext
  apply Array.ext
  · exact h
  · intro k h1 h2
    have := hb k h1
    rw [← get_bt x k h1, ← get_bt y k h2] at this
    apply UInt8.toNat_inj.1
    have h3 : x[k].toNat = y[k].toNat := by omega
    exact h3

theorem Stops.ones {g : Nat → Option Nat} {n a e : Nat} (hae : a ≤ e) (hen : e ≤ n) (h : ∀ i, a ≤ i → i < e → g i = some 1) (he : n ≤ e ∨ g e = none) : Stops g n a e := by
  have key : ∀ d, a + d ≤ e → steps g n a d = some (a + d) := by
    intro d
    induction d with
    | zero => exact fun _ => rfl
    | succ d ih =>
      intro hd
      have := steps_next (ih (by omega)) (by omega) (h (a + d) (by omega) (by omega))
      exact this
  refine ⟨⟨e - a, ?_⟩, he⟩
  rw [key (e - a) (by omega)]
  congr 1; omega

/-- A blank ahead of a text of Chars. -/
theorem dec_shift {x y : ByteArray} (h : ∀ k, bt x (k + 1) = bt y k) (i : Nat) : dec x (i + 1) = dec y i := by
  unfold dec
  rw [h i, show i + 1 + 1 = (i + 1) + 1 from rfl, h (i + 1), show i + 1 + 2 = (i + 2) + 1 from rfl, h (i + 2), show i + 1 + 3 = (i + 3) + 1 from rfl, h (i + 3)]
theorem cstep_shift {x y : ByteArray} (h : ∀ k, bt x (k + 1) = bt y k) (i : Nat) : cstep x (i + 1) = cstep y i := by unfold cstep; rw [dec_shift h]
theorem stops_shift {x y : ByteArray} (n e : Nat) (h0 : bt x 0 = 32) (h : ∀ k, bt x (k + 1) = bt y k) (hS : Stops (cstep y) n 0 e) : Stops (cstep x) (n + 1) 0 (e + 1) := by
  obtain ⟨⟨m, hm⟩, he⟩ := hS
  have h1 : cstep x 0 = some 1 := by rw [cstep_asc x 0 (by omega), h0]; rfl
  have key : ∀ m i, steps (cstep y) n 0 m = some i → steps (cstep x) (n + 1) 0 (m + 1) = some (i + 1) := by
    intro m
    induction m with
    | zero =>
      intro i hi
      obtain rfl : 0 = i := Option.some.inj hi
      exact steps_next (i := 0) rfl (by omega) h1
    | succ m ih =>
      intro i hi
      simp only [steps] at hi
      cases hm : steps (cstep y) n 0 m with
      | none => rw [hm] at hi; cases hi
      | some j =>
        rw [hm] at hi
        dsimp only at hi
        by_cases hl : j < n
        · rw [if_pos hl] at hi
          cases hz : cstep y j with
          | none => rw [hz] at hi; cases hi
          | some z =>
            rw [hz] at hi
            obtain rfl : j + z = i := Option.some.inj hi
            have := steps_next (ih j hm) (by omega) ((cstep_shift h j).trans hz)
            rw [this]; congr 1; omega
        · rw [if_neg hl] at hi; cases hi
  refine ⟨⟨m + 1, key m e hm⟩, ?_⟩
  rcases he with he | he
  · exact Or.inl (by omega)
  · exact Or.inr ((cstep_shift h e).trans he)

/-! ### The written instruction -/
section
variable (p t d l : ByteArray)
def openB : ByteArray := p ++ ⟨#[60, 63]⟩ ++ t ++ ⟨#[32]⟩ ++ d
def wholeB : ByteArray := openB p t d ++ ⟨#[63, 62]⟩ ++ l
theorem openB_size : (openB p t d).size = p.size + 2 + t.size + 1 + d.size := by simp [openB, ByteArray.size_append]; rfl
theorem wholeB_size : (wholeB p t d l).size = p.size + 2 + t.size + 1 + d.size + 2 + l.size := by
  unfold wholeB; rw [ByteArray.size_append, ByteArray.size_append, openB_size]; rfl
theorem lit2 (a b : UInt8) : (⟨#[a, b]⟩ : ByteArray).size = 2 := rfl
theorem lit1 (a : UInt8) : (⟨#[a]⟩ : ByteArray).size = 1 := rfl
theorem openB_name (k : Nat) (h : k < t.size) : bt (openB p t d) (p.size + 2 + k) = bt t k := by
  simp only [openB, bt_append, ByteArray.size_append, lit2, lit1]
  rw [if_pos (by omega), if_pos (by omega), if_neg (by omega)]
  congr 1; omega
theorem openB_blank : bt (openB p t d) (p.size + 2 + t.size) = 32 := by
  simp only [openB, bt_append, ByteArray.size_append, lit2, lit1]
  rw [if_pos (by omega), if_neg (by omega), Nat.sub_self]
  rfl
theorem openB_data (k : Nat) : bt (openB p t d) (p.size + 2 + t.size + 1 + k) = bt d k := by
  simp only [openB, bt_append, ByteArray.size_append, lit2, lit1]
  rw [if_neg (by omega)]
  congr 1; omega
theorem wholeB_open (k : Nat) (h : k < (openB p t d).size) : bt (wholeB p t d l) k = bt (openB p t d) k := by
  simp only [wholeB, bt_append, ByteArray.size_append, lit2]
  rw [if_pos (by omega), if_pos h]
theorem wholeB_q : bt (wholeB p t d l) (openB p t d).size = 63 := by
  simp only [wholeB, bt_append, ByteArray.size_append, lit2]
  rw [if_pos (by omega), if_neg (by omega), Nat.sub_self]
  rfl
theorem wholeB_gt : bt (wholeB p t d l) ((openB p t d).size + 1) = 62 := by
  simp only [wholeB, bt_append, ByteArray.size_append, lit2]
  rw [if_pos (by omega), if_neg (by omega), show (openB p t d).size + 1 - (openB p t d).size = 1 by omega]
  rfl
end

theorem plain_start {t : ByteArray} (h : plainB t = true) : 0 < t.size ∧ bt t 0 < 128 ∧ ascNm (bt t 0) = true ∧ noOpen (bt t 0) = false ∧ bt t 0 ≠ 58 := by
  unfold plainB at h
  simp only [Bool.and_eq_true, Bool.or_eq_true, decide_eq_true_eq, beq_iff_eq] at h
  obtain ⟨⟨h1, h2⟩, _⟩ := h
  refine ⟨by omega, by omega, ?_, ?_, by omega⟩
  · simp [ascNm]; omega
  · simp [noOpen]; omega
theorem plain_rest {t : ByteArray} (h : plainB t = true) (k : Nat) (h0 : k ≠ 0) (hk : k < t.size) : ascNm (bt t k) = true ∧ bt t k ≠ 58 := by
  unfold plainB at h
  rw [Bool.and_eq_true, List.all_eq_true] at h
  have := h.2 k (List.mem_range.2 hk)
  simp only [Bool.and_eq_true, Bool.or_eq_true, beq_iff_eq, Bool.not_eq_true', beq_eq_false_iff_ne] at this
  rcases this with h | h
  · exact absurd h h0
  · exact ⟨h.2, h.1⟩
theorem asc_lt (c : Int) (h : ascNm c = true) : c < 128 := by simp [ascNm] at h; omega

/-- The name is read up to the blank. -/
theorem name_stops (s t : ByteArray) (a : Nat) (hp : plainB t = true) (hn : ∀ k, k < t.size → bt s (a + k) = bt t k) (hb : bt s (a + t.size) = 32) (hz : a + t.size ≤ s.size) : Stops (nstep s a) s.size a (a + t.size) := by
  refine Stops.ones (by omega) hz (fun i h1 h2 => ?_) (Or.inr ?_)
  · obtain ⟨k, rfl⟩ : ∃ k, i = a + k := ⟨i - a, by omega⟩
    have hk : k < t.size := by omega
    have e := hn k hk
    by_cases h0 : k = 0
    · subst h0
      obtain ⟨_, g1, g2, g3, _⟩ := plain_start hp
      rw [nstep_asc s a _ (by omega), e, g2, g3]; simp
    · obtain ⟨g1, _⟩ := plain_rest hp k h0 hk
      have := asc_lt _ g1
      rw [nstep_asc s a _ (by omega), e, g1]
      simp; omega
  · rw [nstep_asc s a _ (by omega), hb]; rfl
theorem name_is (s t : ByteArray) (a : Nat) (hn : ∀ k, k < t.size → bt s (a + k) = bt t k) (hz : a + t.size ≤ s.size) : s.extract a (a + t.size) = t := by
  refine bytes_ext (by simp; omega) fun k hk => ?_
  have hk' : k < t.size := by simp at hk; omega
  rw [bt_extract s _ _ k hz, if_pos (by omega), hn k hk']
theorem name_ok (t : ByteArray) (hp : plainB t = true) : nmOK t.data.toList = true := by
  have hne : t.data.toList ≠ [] := by
    intro h
    have := (plain_start hp).1
    have h' : t.data.toList.length = 0 := by rw [h]; rfl
    have h2 : t.size = t.data.toList.length := by simp
    omega
  have hno : Lib.index t.data.toList [58] = -1 := by
    apply Lib.index_none
    intro j _
    rw [Bool.eq_false_iff]
    intro ho
    unfold Lib.occAt at ho
    have e0 : (t.data.toList.drop j)[0]? = t.data.toList[j]? := by rw [List.getElem?_drop]; rfl
    have : t.data.toList[j]? = some 58 := by
      rw [← e0]
      match h : t.data.toList.drop j with
      | [] => rw [h] at ho; cases ho
      | x :: r =>
        rw [h] at ho
        simp [List.isPrefixOf] at ho
        simp [ho]
    have h58 : bt t j = 58 := by rw [bt_list, this]; rfl
    have hj := bt_lt_of_ne t (k := j) (by omega)
    by_cases h0 : j = 0
    · subst h0; exact (plain_start hp).2.2.2.2 h58
    · exact (plain_rest hp j h0 hj).2 h58
  unfold nmOK Lib.cut
  rw [hno]
  simpa using hne

theorem no_close {d : ByteArray} (h : Lib.index d.data.toList [63, 62] < 0) (k : Nat) : (bt d k == 63 && bt d (k + 1) == 62) = false := by
  rcases Lib.index_spec d.data.toList [63, 62] with ⟨_, hno⟩ | ⟨i, hi, _⟩
  · by_cases hk : k ≤ d.data.toList.length
    · rw [← occ_close]; exact hno k hk
    · have h2 : d.size = d.data.toList.length := by simp
      rw [bt_end d (show d.size ≤ k by omega)]; rfl
  · omega
section
variable (p t d l : ByteArray)
theorem whole_tail (k : Nat) : bt ((wholeB p t d l).extract (p.size + 2 + t.size) (wholeB p t d l).size) k = bt (wholeB p t d l) (p.size + 2 + t.size + k) := by
  rw [bt_extract _ _ _ _ (Nat.le_refl _)]
  by_cases h : p.size + 2 + t.size + k < (wholeB p t d l).size
  · rw [if_pos h]
  · rw [if_neg h, bt_end _ (by omega)]
theorem open_tail (k : Nat) : bt ((openB p t d).extract (p.size + 2 + t.size) (openB p t d).size) k = bt (openB p t d) (p.size + 2 + t.size + k) := by
  rw [bt_extract _ _ _ _ (Nat.le_refl _)]
  by_cases h : p.size + 2 + t.size + k < (openB p t d).size
  · rw [if_pos h]
  · rw [if_neg h, bt_end _ (by omega)]
theorem open_index (hd : Lib.index d.data.toList [63, 62] < 0) : Lib.index ((openB p t d).extract (p.size + 2 + t.size) (openB p t d).size).data.toList [63, 62] = -1 := by
  apply Lib.index_none
  intro j _
  rw [occ_close, open_tail, open_tail]
  rcases Nat.eq_zero_or_pos j with rfl | hj
  · rw [Nat.add_zero, openB_blank]; rfl
  · obtain ⟨k, rfl⟩ : ∃ k, j = 1 + k := ⟨j - 1, by omega⟩
    rw [show p.size + 2 + t.size + (1 + k) = p.size + 2 + t.size + 1 + k by omega, show p.size + 2 + t.size + (1 + k + 1) = p.size + 2 + t.size + 1 + (k + 1) by omega, openB_data, openB_data]
    exact no_close hd k
theorem whole_index (hd : Lib.index d.data.toList [63, 62] < 0) : Lib.index ((wholeB p t d l).extract (p.size + 2 + t.size) (wholeB p t d l).size).data.toList [63, 62] = ((1 + d.size : Nat) : Int) := by
  have hz := openB_size p t d
  have hw := wholeB_size p t d l
  refine Lib.index_hit ?_ ?_ ?_
  · intro j hj
    rw [occ_close, whole_tail, whole_tail, wholeB_open p t d l _ (by omega)]
    rcases Nat.eq_zero_or_pos j with rfl | hj0
    · rw [Nat.add_zero, openB_blank]; rfl
    · obtain ⟨k, rfl⟩ : ∃ k, j = 1 + k := ⟨j - 1, by omega⟩
      rw [show p.size + 2 + t.size + (1 + k) = p.size + 2 + t.size + 1 + k by omega, openB_data]
      by_cases hk : k + 1 < d.size
      · rw [wholeB_open p t d l _ (by omega), show p.size + 2 + t.size + (1 + k + 1) = p.size + 2 + t.size + 1 + (k + 1) by omega, openB_data]
        exact no_close hd k
      · rw [show p.size + 2 + t.size + (1 + k + 1) = (openB p t d).size by omega, wholeB_q]
        simp
  · simp; omega
  · rw [occ_close, whole_tail, whole_tail, show p.size + 2 + t.size + (1 + d.size) = (openB p t d).size by omega, show p.size + 2 + t.size + (1 + d.size + 1) = (openB p t d).size + 1 by omega, wholeB_q, wholeB_gt]
    rfl
theorem whole_text (hS : Stops (cstep d) d.size 0 d.size) : Stops (cstep ((wholeB p t d l).extract (p.size + 2 + t.size) (p.size + 2 + t.size + (1 + d.size)))) (1 + d.size) 0 (1 + d.size) := by
  have hz := openB_size p t d
  have hw := wholeB_size p t d l
  rw [Nat.add_comm 1 d.size]
  refine stops_shift d.size d.size ?_ (fun k => ?_) hS
  · rw [bt_extract _ _ _ _ (by omega), if_pos (by omega), Nat.add_zero, wholeB_open p t d l _ (by omega), openB_blank]
  · rw [bt_extract _ _ _ _ (by omega)]
    by_cases hk : k < d.size
    · rw [if_pos (by omega), wholeB_open p t d l _ (by omega), show p.size + 2 + t.size + (k + 1) = p.size + 2 + t.size + 1 + k by omega, openB_data]
    · rw [if_neg (by omega), bt_end d (by omega)]
end
end Go.Proofs.Qxb6606017aFmt
