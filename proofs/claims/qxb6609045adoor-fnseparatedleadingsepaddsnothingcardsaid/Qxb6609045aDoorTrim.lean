import Derived.Test.Qxb6609045aDoorMod
import Derived.Lib.SpaceUEq
import Derived.Lib.SplitLaws
namespace Go.Proofs.Qxb6609045aDoor
open Go.RowKit Go.PlainAid
open Go.Lib

/-! ### bytes -/
theorem bt_list (s : ByteArray) (k : Nat) : bt s k = ((s.data.toList.getD k 0).toNat : Int) := by
  unfold bt
  by_cases h : k < s.size
  · have h' : k < s.data.toList.length := by rw [← size_eq]; exact h
    rw [dif_pos h, List.getD, List.getElem?_eq_getElem h', Option.getD_some]
    rfl
  · have h' : ¬ k < s.data.toList.length := by rw [← size_eq]; exact h
    rw [dif_neg h, List.getD, List.getElem?_eq_none (by omega)]
    rfl
/-- The bytes of s from a up to b. -/
def pc (s : ByteArray) (a b : Nat) : List UInt8 := (s.data.toList.drop a).take (b - a)
theorem pc_data (s : ByteArray) (a b : Nat) : (s.extract a b).data.toList = pc s a b := extract_data s a b
theorem pc_length (s : ByteArray) {a b : Nat} (h : b ≤ s.size) : (pc s a b).length = b - a := by
  have : s.data.toList.length = s.size := (size_eq s).symm
  unfold pc
  rw [List.length_take, List.length_drop]
  omega
theorem pc_get (s : ByteArray) {a b k : Nat} (hk : a + k < b) (h : b ≤ s.size) : (pc s a b)[k]? = some (s.data.toList.getD (a + k) 0) := by
  have e : s.data.toList.length = s.size := (size_eq s).symm
  unfold pc
  rw [List.getElem?_take_of_lt (by omega), List.getElem?_drop, List.getD, List.getElem?_eq_getElem (by omega)]
  rfl
theorem pc_drop (s : ByteArray) (a b k : Nat) : (pc s a b).drop k = pc s (a + k) b := by
  unfold pc
  rw [List.drop_take, List.drop_drop, Nat.sub_sub]
theorem pc_take (s : ByteArray) {a b c : Nat} (h1 : a ≤ b) (h2 : b ≤ c) : (pc s a c).take (b - a) = pc s a b := by
  unfold pc
  rw [List.take_take, Nat.min_eq_left (by omega)]
theorem pc_nil (s : ByteArray) (a : Nat) : pc s a a = [] := by unfold pc; simp

theorem u8_of_bt {x : UInt8} {y : UInt8} (h : ((x.toNat : Nat) : Int) = ((y.toNat : Nat) : Int)) : x = y := UInt8.toNat_inj.1 (by omega)

/-! ### white space by bytes -/
theorem spW_of (s : ByteArray) (b : Nat) : ∀ q ∈ spaceSeqs, (∀ k (h : k < q.length), bt s (b + k) = (q[k].toNat : Int)) → spW s b = q.length := by
  intro q hq h
  have g0 : ∀ h' : 0 < q.length, bt s b = (q[0].toNat : Int) := fun h' => h 0 h'
  have g1 : ∀ h' : 1 < q.length, bt s (b + 1) = (q[1].toNat : Int) := fun h' => h 1 h'
  have g2 : ∀ h' : 2 < q.length, bt s (b + 2) = (q[2].toNat : Int) := fun h' => h 2 h'
  clear h
  simp only [spaceSeqs, List.mem_cons, List.not_mem_nil, or_false] at hq
  rcases hq with rfl | rfl | rfl | rfl | rfl | rfl | rfl | rfl | rfl | rfl | rfl | rfl | rfl | rfl | rfl | rfl | rfl | rfl | rfl | rfl | rfl | rfl | rfl | rfl | rfl
  all_goals
    simp at g0 g1 g2
    unfold spW
    simp [g0, g1, g2]

theorem seq_pos : ∀ q ∈ spaceSeqs, 0 < q.length := by decide
theorem seq_pre : ∀ q ∈ spaceSeqs, ∀ q' ∈ spaceSeqs, q.isPrefixOf q' = true → q.length = q'.length := by decide
theorem seq_suf : ∀ q ∈ spaceSeqs, ∀ q' ∈ spaceSeqs, q.isSuffixOf q' = true → q.length = q'.length := by decide

theorem headSpace_of {q l : List UInt8} (hq : q ∈ spaceSeqs) (hp : q <+: l) : headSpace l = q.length := by
  unfold headSpace
  cases hf : spaceSeqs.find? (·.isPrefixOf l) with
  | none =>
    have := List.find?_eq_none.1 hf _ hq
    exact absurd (List.isPrefixOf_iff_prefix.2 hp) this
  | some q' =>
    have hq' : q' ∈ spaceSeqs := List.mem_of_find?_eq_some hf
    have hp' : q' <+: l := List.isPrefixOf_iff_prefix.1 (by simpa using List.find?_some hf)
    rw [Option.map_some, Option.getD_some]
    rcases List.prefix_or_prefix_of_prefix hp hp' with h | h
    · exact (seq_pre q hq q' hq' (List.isPrefixOf_iff_prefix.2 h)).symm
    · exact seq_pre q' hq' q hq (List.isPrefixOf_iff_prefix.2 h)
theorem headSpace_none {l : List UInt8} (h : ∀ q ∈ spaceSeqs, ¬ q <+: l) : headSpace l = 0 := by
  unfold headSpace
  rw [List.find?_eq_none.2 fun q hq => by rw [List.isPrefixOf_iff_prefix]; exact h q hq]
  rfl
theorem tailSpace_of {q l : List UInt8} (hq : q ∈ spaceSeqs) (hp : q <:+ l) : tailSpace l = q.length := by
  unfold tailSpace
  cases hf : spaceSeqs.find? (·.isSuffixOf l) with
  | none =>
    have := List.find?_eq_none.1 hf _ hq
    exact absurd (List.isSuffixOf_iff_suffix.2 hp) this
  | some q' =>
    have hq' : q' ∈ spaceSeqs := List.mem_of_find?_eq_some hf
    have hp' : q' <:+ l := List.isSuffixOf_iff_suffix.1 (by simpa using List.find?_some hf)
    rw [Option.map_some, Option.getD_some]
    rcases List.suffix_or_suffix_of_suffix hp hp' with h | h
    · exact (seq_suf q hq q' hq' (List.isSuffixOf_iff_suffix.2 h)).symm
    · exact seq_suf q' hq' q hq (List.isSuffixOf_iff_suffix.2 h)
theorem tailSpace_none {l : List UInt8} (h : ∀ q ∈ spaceSeqs, ¬ q <:+ l) : tailSpace l = 0 := by
  unfold tailSpace
  rw [List.find?_eq_none.2 fun q hq => by rw [List.isSuffixOf_iff_suffix]; exact h q hq]
  rfl

/-- Do these bytes stand at place b? -/
def Stands (s : ByteArray) (b : Nat) (q : List UInt8) : Prop := ∀ k (h : k < q.length), bt s (b + k) = (q[k].toNat : Int)
theorem stands_of {s : ByteArray} {b : Nat} {q : List UInt8} (h : ∀ k, k < q.length → bt s (b + k) = ((q.getD k 0).toNat : Int)) : Stands s b q := fun k hk => by
  rw [h k hk, List.getD, List.getElem?_eq_getElem hk]; rfl
theorem seq_at (s : ByteArray) (b : Nat) (h : 0 < spW s b) : ∃ q ∈ spaceSeqs, q.length = spW s b ∧ Stands s b q := by
  have one : ∀ x : UInt8, bt s b = (x.toNat : Int) → Stands s b [x] := fun x h => stands_of fun k hk => by
    obtain rfl : k = 0 := by simpa using hk
    exact h
  have two : ∀ x y : UInt8, bt s b = (x.toNat : Int) → bt s (b + 1) = (y.toNat : Int) → Stands s b [x, y] := fun x y h h' => stands_of fun k hk => by
    rcases (show k = 0 ∨ k = 1 by simp at hk; omega) with rfl | rfl
    · exact h
    · exact h'
  have three : ∀ x y z : UInt8, bt s b = (x.toNat : Int) → bt s (b + 1) = (y.toNat : Int) → bt s (b + 2) = (z.toNat : Int) → Stands s b [x, y, z] := fun x y z h h' h'' => stands_of fun k hk => by
    rcases (show k = 0 ∨ k = 1 ∨ k = 2 by simp at hk; omega) with rfl | rfl | rfl
    · exact h
    · exact h'
    · exact h''
  unfold spW at h ⊢
  split at h
  · rename_i h0
    rw [if_pos h0]
    rcases h0 with h0 | h0 | h0 | h0 | h0 | h0
    · exact ⟨[9], by decide, rfl, one 9 h0⟩
    · exact ⟨[10], by decide, rfl, one 10 h0⟩
    · exact ⟨[11], by decide, rfl, one 11 h0⟩
    · exact ⟨[12], by decide, rfl, one 12 h0⟩
    · exact ⟨[13], by decide, rfl, one 13 h0⟩
    · exact ⟨[32], by decide, rfl, one 32 h0⟩
  · rename_i hn
    rw [if_neg hn]
    split at h
    · rename_i h0
      rw [if_pos h0]
      split at h
      · rename_i h1
        rw [if_pos h1]
        rcases h1 with h1 | h1
        · exact ⟨[194, 133], by decide, rfl, two 194 133 h0 h1⟩
        · exact ⟨[194, 160], by decide, rfl, two 194 160 h0 h1⟩
      · omega
    · rename_i hn
      rw [if_neg hn]
      split at h
      · rename_i h0
        rw [if_pos h0]
        split at h
        · rename_i h1
          rw [if_pos h1]
          exact ⟨[225, 154, 128], by decide, rfl, three 225 154 128 h0 h1.1 h1.2⟩
        · omega
      · rename_i hn
        rw [if_neg hn]
        split at h
        · rename_i h0
          rw [if_pos h0]
          split at h
          · rename_i h1
            rw [if_pos h1]
            rcases h1 with ⟨h1, h2⟩ | ⟨h1, h2⟩
            · have h3 : bt s (b + 2) = 128 ∨ bt s (b + 2) = 129 ∨ bt s (b + 2) = 130 ∨ bt s (b + 2) = 131 ∨ bt s (b + 2) = 132 ∨ bt s (b + 2) = 133 ∨ bt s (b + 2) = 134 ∨ bt s (b + 2) = 135 ∨ bt s (b + 2) = 136 ∨ bt s (b + 2) = 137 ∨ bt s (b + 2) = 138 ∨ bt s (b + 2) = 168 ∨ bt s (b + 2) = 169 ∨ bt s (b + 2) = 175 := by omega
              rcases h3 with h3 | h3 | h3 | h3 | h3 | h3 | h3 | h3 | h3 | h3 | h3 | h3 | h3 | h3
              · exact ⟨[226, 128, 128], by decide, rfl, three 226 128 128 h0 h1 h3⟩
              · exact ⟨[226, 128, 129], by decide, rfl, three 226 128 129 h0 h1 h3⟩
              · exact ⟨[226, 128, 130], by decide, rfl, three 226 128 130 h0 h1 h3⟩
              · exact ⟨[226, 128, 131], by decide, rfl, three 226 128 131 h0 h1 h3⟩
              · exact ⟨[226, 128, 132], by decide, rfl, three 226 128 132 h0 h1 h3⟩
              · exact ⟨[226, 128, 133], by decide, rfl, three 226 128 133 h0 h1 h3⟩
              · exact ⟨[226, 128, 134], by decide, rfl, three 226 128 134 h0 h1 h3⟩
              · exact ⟨[226, 128, 135], by decide, rfl, three 226 128 135 h0 h1 h3⟩
              · exact ⟨[226, 128, 136], by decide, rfl, three 226 128 136 h0 h1 h3⟩
              · exact ⟨[226, 128, 137], by decide, rfl, three 226 128 137 h0 h1 h3⟩
              · exact ⟨[226, 128, 138], by decide, rfl, three 226 128 138 h0 h1 h3⟩
              · exact ⟨[226, 128, 168], by decide, rfl, three 226 128 168 h0 h1 h3⟩
              · exact ⟨[226, 128, 169], by decide, rfl, three 226 128 169 h0 h1 h3⟩
              · exact ⟨[226, 128, 175], by decide, rfl, three 226 128 175 h0 h1 h3⟩
            · exact ⟨[226, 129, 159], by decide, rfl, three 226 129 159 h0 h1 h2⟩
          · omega
        · rename_i hn
          rw [if_neg hn]
          split at h
          · rename_i h0
            rw [if_pos h0]
            split at h
            · rename_i h1
              rw [if_pos h1]
              exact ⟨[227, 128, 128], by decide, rfl, three 227 128 128 h0 h1.1 h1.2⟩
            · omega
          · omega

theorem pre_iff {s : ByteArray} {b e : Nat} {q : List UInt8} (he : e ≤ s.size) : q <+: pc s b e ↔ (q = [] ∨ b + q.length ≤ e) ∧ Stands s b q := by
  rw [List.prefix_iff_getElem?]
  constructor
  · intro h
    refine ⟨?_, fun k hk => ?_⟩
    · cases hq : q with
      | nil => exact Or.inl rfl
      | cons x t =>
        right
        have hlt : q.length - 1 < q.length := by rw [hq]; simp
        have := h (q.length - 1) hlt
        have h2 : q.length - 1 < (pc s b e).length := by
          rcases Nat.lt_or_ge (q.length - 1) (pc s b e).length with h' | h'
          · exact h'
          · rw [List.getElem?_eq_none h'] at this; cases this
        rw [pc_length s he] at h2
        rw [← hq]
        omega
    · have := h k hk
      have h2 : k < (pc s b e).length := by
        rcases Nat.lt_or_ge k (pc s b e).length with h' | h'
        · exact h'
        · rw [List.getElem?_eq_none h'] at this; cases this
      rw [pc_length s he] at h2
      rw [pc_get s (by omega) he] at this
      rw [bt_list, Option.some.inj this]
  · rintro ⟨h0, h⟩ k hk
    have h1 : b + q.length ≤ e := by
      rcases h0 with h0 | h0
      · rw [h0] at hk; simp at hk
      · exact h0
    rw [pc_get s (by omega) he]
    have := h k hk
    rw [bt_list] at this
    rw [u8_of_bt this]
theorem suf_iff {s : ByteArray} {a e : Nat} {q : List UInt8} (hq : 0 < q.length) (he : e ≤ s.size) : q <:+ pc s a e ↔ a + q.length ≤ e ∧ Stands s (e - q.length) q := by
  rw [List.suffix_iff_eq_drop, pc_length s he, pc_drop]
  constructor
  · intro h
    have hl : q.length = e - (a + (e - a - q.length)) := by
      have := congrArg List.length h
      rwa [pc_length s he] at this
    have h1 : a + q.length ≤ e := by omega
    refine ⟨h1, ?_⟩
    have e1 : a + (e - a - q.length) = e - q.length := by omega
    rw [e1] at h
    exact ((pre_iff (b := e - q.length) he).1 (by rw [← h]; exact List.prefix_refl _)).2
  · rintro ⟨h1, h⟩
    have e1 : a + (e - a - q.length) = e - q.length := by omega
    rw [e1]
    exact ((pre_iff (b := e - q.length) he).2 ⟨Or.inr (by omega), h⟩).eq_of_length (by rw [pc_length s he]; omega)

/-! ### what the scan has seen -/
theorem spB_cases (s sep : ByteArray) (i : Nat) : spB s sep i = 0 ∨ (spB s sep i = spW s i ∧ ∀ j, i < j → j < i + spW s i → hasB s sep j = false) := by
  unfold spB
  split
  · exact Or.inl rfl
  · rename_i h
    refine Or.inr ⟨rfl, fun j h1 h2 => ?_⟩
    have hle := spW_le s i
    cases hj : hasB s sep j
    · rfl
    · exfalso
      apply h
      rcases (show j = i + 1 ∨ j = i + 2 by omega) with rfl | rfl
      · exact Or.inl ⟨by omega, hj⟩
      · exact Or.inr ⟨by omega, hj⟩
theorem spB_full {s sep : ByteArray} {i : Nat} (h : ∀ j, i < j → j < i + spW s i → hasB s sep j = false) : spB s sep i = spW s i := by
  unfold spB
  rw [if_neg]
  rintro (⟨h1, h2⟩ | ⟨h1, h2⟩)
  · rw [h (i + 1) (by omega) (by omega)] at h2; cases h2
  · rw [h (i + 2) (by omega) (by omega)] at h2; cases h2
theorem spW_inside (s : ByteArray) (i j : Nat) (h1 : i < j) (h2 : j < i + spW s i) : spW s j = 0 := by
  have hc : 128 ≤ bt s j ∧ bt s j ≤ 191 := by
    have hle := spW_le s i
    rcases (show j = i + 1 ∨ j = i + 2 by omega) with rfl | rfl
    · unfold spW at h2
      repeat' split at h2
      all_goals omega
    · unfold spW at h2
      repeat' split at h2
      all_goals omega
  unfold spW
  rw [if_neg (by omega), if_neg (by omega), if_neg (by omega), if_neg (by omega), if_neg (by omega)]
theorem spB_inside (s sep : ByteArray) (i j : Nat) (h1 : i < j) (h2 : j < i + spB s sep i) : spB s sep j = 0 := by
  have h3 : spW s j = 0 := by
    rcases spB_cases s sep i with h | ⟨h, _⟩
    · omega
    · exact spW_inside s i j h1 (by omega)
  rcases spB_cases s sep j with h | ⟨h, _⟩
  · exact h
  · omega

/-- Where a walk over n blanks from a on ends. -/
def over (s sep : ByteArray) (a : Nat) : Nat → Nat
  | 0 => a
  | n + 1 => over s sep a n + spB s sep (over s sep a n)
/-- Blanks from a up to b, and nothing else. -/
def Sp (s sep : ByteArray) (a b : Nat) : Prop := ∃ n, over s sep a n = b ∧ ∀ k, k < n → 0 < spB s sep (over s sep a k)
theorem Sp.nil {s sep : ByteArray} (a : Nat) : Sp s sep a a := ⟨0, rfl, fun k h => by omega⟩
theorem Sp.snoc {s sep : ByteArray} {a b : Nat} (h : Sp s sep a b) (hw : 0 < spB s sep b) : Sp s sep a (b + spB s sep b) := by
  obtain ⟨n, rfl, h⟩ := h
  refine ⟨n + 1, rfl, fun k hk => ?_⟩
  rcases Nat.lt_or_ge k n with h1 | h1
  · exact h k h1
  · obtain rfl : k = n := by omega
    exact hw
theorem Sp.ind {s sep : ByteArray} {a : Nat} {M : Nat → Prop} (h0 : M a) (h1 : ∀ b, Sp s sep a b → 0 < spB s sep b → M b → M (b + spB s sep b)) {b : Nat} (h : Sp s sep a b) : M b := by
  obtain ⟨n, rfl, h⟩ := h
  have key : ∀ m, m ≤ n → M (over s sep a m) := by
    intro m
    induction m with
    | zero => exact fun _ => h0
    | succ m ih => exact fun hm => h1 _ ⟨m, rfl, fun k hk => h k (by omega)⟩ (h m (by omega)) (ih (by omega))
  exact key n (Nat.le_refl _)
theorem Sp.le {s sep : ByteArray} {a b : Nat} (h : Sp s sep a b) : a ≤ b :=
  Sp.ind (M := fun b => a ≤ b) (Nat.le_refl _) (fun b _ _ ih => by omega) h

/-- A piece that began at p, scanned up to i. -/
structure Base (s sep : ByteArray) (p i : Nat) : Prop where
  le : p ≤ i
  fit : i ≤ s.size
  no : ∀ j, p ≤ j → j < i → hasB s sep j = false
  room : ∀ j, p ≤ j → j < i → j + spB s sep j ≤ i
theorem Base.zero {s sep : ByteArray} {p : Nat} (h : p ≤ s.size) : Base s sep p p := ⟨Nat.le_refl _, h, fun j h1 h2 => by omega, fun j h1 h2 => by omega⟩
theorem Base.blank {s sep : ByteArray} {p i : Nat} (h : Base s sep p i) (hi : i < s.size) (hn : hasB s sep i = false) (hw : 0 < spB s sep i) : Base s sep p (i + spB s sep i) := by
  obtain ⟨hle, hfit, hno, hroom⟩ := h
  have hW : spB s sep i = spW s i ∧ ∀ j, i < j → j < i + spW s i → hasB s sep j = false := by
    rcases spB_cases s sep i with h | h
    · omega
    · exact h
  refine ⟨by omega, by have := spW_fits s i hi; omega, fun j h1 h2 => ?_, fun j h1 h2 => ?_⟩
  · rcases Nat.lt_trichotomy j i with h | rfl | h
    · exact hno j h1 h
    · exact hn
    · exact hW.2 j h (by omega)
  · rcases Nat.lt_trichotomy j i with h | rfl | h
    · have := hroom j h1 h; omega
    · exact Nat.le_refl _
    · rw [spB_inside s sep i j h h2]; omega
theorem Base.step {s sep : ByteArray} {p i : Nat} (h : Base s sep p i) (hi : i < s.size) (hn : hasB s sep i = false) (hw : spB s sep i = 0) : Base s sep p (i + 1) := by
  obtain ⟨hle, hfit, hno, hroom⟩ := h
  refine ⟨by omega, by omega, fun j h1 h2 => ?_, fun j h1 h2 => ?_⟩
  · rcases Nat.lt_or_ge j i with h | h
    · exact hno j h1 h
    · obtain rfl : j = i := by omega
      exact hn
  · rcases Nat.lt_or_ge j i with h | h
    · have := hroom j h1 h; omega
    · obtain rfl : j = i := by omega
      omega

theorem Base.head {s sep : ByteArray} {p e b : Nat} (h : Base s sep p e) (hb : p ≤ b) (hbe : b < e) : headSpace (pc s b e) = spB s sep b := by
  have hr := h.room b hb hbe
  by_cases hW : 0 < spW s b ∧ b + spW s b ≤ e
  · obtain ⟨q, hq, hl, hst⟩ := seq_at s b hW.1
    rw [spB_full (fun j h1 h2 => h.no j (by omega) (by omega)), ← hl]
    exact headSpace_of hq ((pre_iff h.fit).2 ⟨Or.inr (by omega), hst⟩)
  · have h0 : spB s sep b = 0 := by
      rcases spB_cases s sep b with h1 | ⟨h1, _⟩
      · exact h1
      · omega
    rw [h0]
    refine headSpace_none fun q hq hp => hW ?_
    obtain ⟨h1, h2⟩ := (pre_iff h.fit).1 hp
    have hl := spW_of s b q hq h2
    have hpos := seq_pos q hq
    rcases h1 with rfl | h1
    · simp at hpos
    · omega
theorem tail_of {s sep : ByteArray} {a b : Nat} (hab : a ≤ b) (hw : 0 < spB s sep b) (he : b + spB s sep b ≤ s.size) : tailSpace (pc s a (b + spB s sep b)) = spB s sep b := by
  have hW : spB s sep b = spW s b := by
    rcases spB_cases s sep b with h | ⟨h, _⟩
    · omega
    · exact h
  obtain ⟨q, hq, hl, hst⟩ := seq_at s b (by omega)
  rw [tailSpace_of hq ((suf_iff (seq_pos q hq) he).2 ⟨by omega, by rw [hW, hl, Nat.add_sub_cancel]; exact hst⟩), hl, hW]

/-- Where no word has begun. -/
def Off (s sep : ByteArray) (p i : Nat) : Prop := Base s sep p i ∧ Sp s sep p i
/-- Where the word from st up to en has been seen, and blanks behind it. -/
def On (s sep : ByteArray) (p i st en : Nat) : Prop :=
  Base s sep p i ∧ Sp s sep p st ∧ st < en ∧ spB s sep st = 0 ∧ Sp s sep en i ∧ ∀ j, p ≤ j → j < i → 0 < spB s sep j → en ≤ j ∨ j + spB s sep j < en
theorem Off.zero {s sep : ByteArray} {p : Nat} (h : p ≤ s.size) : Off s sep p p := ⟨Base.zero h, Sp.nil _⟩
theorem Off.blank {s sep : ByteArray} {p i : Nat} (h : Off s sep p i) (hi : i < s.size) (hn : hasB s sep i = false) (hw : 0 < spB s sep i) : Off s sep p (i + spB s sep i) :=
  ⟨h.1.blank hi hn hw, h.2.snoc hw⟩
theorem Off.step {s sep : ByteArray} {p i : Nat} (h : Off s sep p i) (hi : i < s.size) (hn : hasB s sep i = false) (hw : spB s sep i = 0) : On s sep p (i + 1) i (i + 1) :=
  ⟨h.1.step hi hn hw, h.2, by omega, hw, Sp.nil _, fun j h1 h2 h3 => by
    rcases Nat.lt_or_ge j i with h4 | h4
    · have := h.1.room j h1 h4; omega
    · obtain rfl : j = i := by omega
      omega⟩
theorem On.blank {s sep : ByteArray} {p i st en : Nat} (h : On s sep p i st en) (hi : i < s.size) (hn : hasB s sep i = false) (hw : 0 < spB s sep i) : On s sep p (i + spB s sep i) st en := by
  obtain ⟨h1, h2, h3, h4, h5, h6⟩ := h
  refine ⟨h1.blank hi hn hw, h2, h3, h4, h5.snoc hw, fun j g1 g2 g3 => ?_⟩
  rcases Nat.lt_trichotomy j i with h | rfl | h
  · exact h6 j g1 h g3
  · exact Or.inl h5.le
  · rw [spB_inside s sep i j h g2] at g3; omega
theorem On.step {s sep : ByteArray} {p i st en : Nat} (h : On s sep p i st en) (hi : i < s.size) (hn : hasB s sep i = false) (hw : spB s sep i = 0) : On s sep p (i + 1) st (i + 1) := by
  obtain ⟨h1, h2, h3, h4, h5, h6⟩ := h
  refine ⟨h1.step hi hn hw, h2, by have := h5.le; omega, h4, Sp.nil _, fun j g1 g2 g3 => ?_⟩
  rcases Nat.lt_or_ge j i with h | h
  · have := h1.room j g1 h; omega
  · obtain rfl : j = i := by omega
    omega

theorem stripL_sp {s sep : ByteArray} {p a b e : Nat} (hB : Base s sep p e) (hpa : p ≤ a) (h : Sp s sep a b) : b ≤ e → ∀ f, e - a ≤ f → ∃ f', e - b ≤ f' ∧ stripL f (pc s a e) = stripL f' (pc s b e) := by
  refine Sp.ind (M := fun b => b ≤ e → ∀ f, e - a ≤ f → ∃ f', e - b ≤ f' ∧ stripL f (pc s a e) = stripL f' (pc s b e)) (fun _ f hf => ⟨f, hf, rfl⟩) (fun b h0 hw ih => ?_) h
  intro hbe f hf
  obtain ⟨f', hf', he⟩ := ih (by omega) f hf
  have hle := h0.le
  obtain ⟨g, rfl⟩ : ∃ g, f' = g + 1 := ⟨f' - 1, by omega⟩
  have hh := hB.head (b := b) (by omega) (by omega)
  refine ⟨g, by omega, ?_⟩
  rw [he, stripL, if_neg (by omega), hh, pc_drop]
theorem stripL_stop (f : Nat) (l : List UInt8) (h : headSpace l = 0) : stripL f l = l := by
  cases f with
  | zero => rfl
  | succ f => rw [stripL, if_pos h]
theorem stripR_stop (f : Nat) (l : List UInt8) (h : tailSpace l = 0) : stripR f l = l := by
  cases f with
  | zero => rfl
  | succ f => rw [stripR, if_pos h]
theorem stripR_sp {s sep : ByteArray} {a b e : Nat} (h : Sp s sep b e) : a ≤ b → e ≤ s.size → ∀ f, e - a ≤ f → ∃ f', stripR f (pc s a e) = stripR f' (pc s a b) := by
  refine Sp.ind (M := fun e => a ≤ b → e ≤ s.size → ∀ f, e - a ≤ f → ∃ f', stripR f (pc s a e) = stripR f' (pc s a b)) (fun _ _ f _ => ⟨f, rfl⟩) (fun e h0 hw ih => ?_) h
  intro hab hes f hf
  have hle := h0.le
  obtain ⟨g, rfl⟩ : ∃ g, f = g + 1 := ⟨f - 1, by omega⟩
  have ht := tail_of (s := s) (sep := sep) (a := a) (b := e) (by omega) hw hes
  obtain ⟨f', he⟩ := ih hab (by omega) g (by omega)
  refine ⟨f', ?_⟩
  rw [stripR, if_neg (by omega), ht, pc_length s hes, show e + spB s sep e - a - spB s sep e = e - a by omega, pc_take s (by omega) (by omega), he]

theorem trimB_pc (s : ByteArray) (a b : Nat) (x : List UInt8) (h : trimSpaceU (pc s a b) = x) : trimB (s.extract a b) = ⟨x.toArray⟩ := by
  unfold trimB
  rw [pc_data, ← trimSpaceU_eq, h]
theorem extract_pc (s : ByteArray) (a b : Nat) : s.extract a b = ⟨(pc s a b).toArray⟩ := by rw [← pc_data]
/-- No word: nothing is left. -/
theorem Off.trim {s sep : ByteArray} {p e : Nat} (h : Off s sep p e) : trimB (s.extract p e) = ⟨#[]⟩ := by
  refine trimB_pc s p e [] ?_
  unfold trimSpaceU
  have hl := pc_length s (a := p) h.1.fit
  obtain ⟨f', _, he⟩ := stripL_sp h.1 (Nat.le_refl _) h.2 (Nat.le_refl _) (pc s p e).length (by omega)
  rw [he, pc_nil, stripL_stop _ _ headSpace_nil, stripR_stop _ _ tailSpace_nil]
/-- A word: just this is left. -/
theorem On.trim {s sep : ByteArray} {p e st en : Nat} (h : On s sep p e st en) : trimB (s.extract p e) = s.extract st en := by
  obtain ⟨h1, h2, h3, h4, h5, h6⟩ := h
  rw [extract_pc s st en]
  refine trimB_pc s p e _ ?_
  have l1 := h2.le
  have l2 := h5.le
  unfold trimSpaceU
  have hl := pc_length s (a := p) h1.fit
  obtain ⟨f', _, he⟩ := stripL_sp h1 (Nat.le_refl _) h2 (by omega) (pc s p e).length (by omega)
  rw [he, stripL_stop _ _ (by rw [h1.head l1 (by omega), h4])]
  obtain ⟨f'', he''⟩ := stripR_sp h5 (a := st) (by omega) h1.fit (pc s p e).length (by omega)
  rw [he'', stripR_stop]
  refine tailSpace_none fun q hq hp => ?_
  have hpos := seq_pos q hq
  obtain ⟨g1, g2⟩ := (suf_iff hpos (by have := h1.fit; omega)).1 hp
  have hW := spW_of s _ q hq g2
  have hB : spB s sep (en - q.length) = q.length := by
    rw [spB_full (fun j k1 k2 => h1.no j (by omega) (by omega)), hW]
  have := h6 (en - q.length) (by omega) (by omega) (by omega)
  omega

/-! ### the pieces -/
theorem has_occ (s sep : ByteArray) (h1 : 1 ≤ sep.size) (p j : Nat) : occAt (s.extract p s.size).data.toList sep.data.toList j = hasB s sep (p + j) := by
  rw [extract_to_end, Bool.eq_iff_iff]
  unfold occAt hasB
  rw [List.drop_drop, List.isPrefixOf_iff_prefix, decide_eq_true_iff]
  have e1 : s.data.toList.drop (p + j) = pc s (p + j) s.size := by
    unfold pc
    rw [List.take_of_length_le]
    rw [List.length_drop, size_eq s]
    exact Nat.le_refl _
  have e2 : sep.data.toList.length = sep.size := (size_eq sep).symm
  rw [e1, pre_iff (Nat.le_refl _), e2]
  constructor
  · rintro ⟨h0, h⟩
    refine ⟨?_, fun k hk => ?_⟩
    · rcases h0 with h0 | h0
      · rw [h0] at e2; simp at e2; omega
      · exact h0
    · rw [h k (by omega), bt_list sep, List.getD, List.getElem?_eq_getElem (by omega)]; rfl
  · rintro ⟨h0, h⟩
    refine ⟨Or.inr h0, fun k hk => ?_⟩
    rw [h k (by omega), bt_list sep, List.getD, List.getElem?_eq_getElem hk]; rfl

/-- The pieces of s behind place p. -/
def rest (s sep : ByteArray) (p : Nat) : List ByteArray := splitB sep 0 (countB (s.extract p s.size) sep) (s.extract p s.size)
theorem rest_cut {s sep : ByteArray} {p i : Nat} (h1 : 1 ≤ sep.size) (hB : Base s sep p i) (h : hasB s sep i = true) : rest s sep p = s.extract p i :: rest s sep (i + sep.size) := by
  have hle := hB.le
  have hfit := hB.fit
  have hroom : i + sep.size ≤ s.size := by unfold hasB at h; exact (of_decide_eq_true h).1
  have hx : indexB (s.extract p s.size) sep = ((i - p : Nat) : Int) := by
    refine index_hit (fun j hj => ?_) ?_ ?_
    · rw [has_occ s sep h1 p j]; exact hB.no _ (by omega) (by omega)
    · rw [← size_eq, ByteArray.size_extract]; omega
    · rw [has_occ s sep h1 p (i - p), show p + (i - p) = i by omega]; exact h
  unfold rest
  rw [countB_hit _ sep (i - p) h1 hx, Nat.add_comm 1, splitB_hit sep 0 _ _ (i - p) hx]
  have e1 : (s.extract p s.size).extract 0 (i - p + 0) = s.extract p i := by
    rw [ByteArray.extract_extract, Nat.add_zero, Nat.add_zero, show min (p + (i - p)) s.size = i by omega]
  have e2 : (s.extract p s.size).extract (i - p + sep.size) (s.extract p s.size).size = s.extract (i + sep.size) s.size := by
    rw [ByteArray.extract_extract, ByteArray.size_extract, show p + (i - p + sep.size) = i + sep.size by omega, show min (p + (min s.size s.size - p)) s.size = s.size by omega]
  rw [e1, e2]
theorem rest_end {s sep : ByteArray} {p : Nat} (h1 : 1 ≤ sep.size) (hB : Base s sep p s.size) : rest s sep p = [s.extract p s.size] := by
  unfold rest
  refine splitB_miss _ _ _ _ (index_none fun j _ => ?_)
  rw [has_occ s sep h1 p j]
  rcases Nat.lt_or_ge (p + j) s.size with h | h
  · exact hB.no _ (by omega) h
  · unfold hasB
    rw [decide_eq_false_iff_not]
    omega

theorem items_append (a b : List ByteArray) : items (a ++ b) = items a ++ items b := by unfold items; rw [List.map_append, List.filter_append]
theorem isEmpty_of (x : ByteArray) : x.toList.isEmpty = decide (x.size = 0) := by
  rw [toList_data, size_eq]
  cases x.data.toList <;> simp
theorem items_none {x : ByteArray} (h : trimB x = ⟨#[]⟩) : items [x] = [] := by
  unfold items
  rw [List.map_cons, h, List.map_nil, List.filter_cons, isEmpty_of, if_neg]
  · rfl
  · decide
theorem items_one {x y : ByteArray} (h : trimB x = y) (hy : 0 < y.size) : items [x] = [y] := by
  unfold items
  rw [List.map_cons, h, List.map_nil, List.filter_cons, isEmpty_of, if_pos]
  · rfl
  · rw [decide_eq_false (by omega)]; rfl
theorem items_off {s sep : ByteArray} {p e : Nat} (ps : List ByteArray) (h : Off s sep p e) : items (ps ++ [s.extract p e]) = items ps := by rw [items_append, items_none h.trim, List.append_nil]
theorem items_on {s sep : ByteArray} {p e st en : Nat} (ps : List ByteArray) (h : On s sep p e st en) : items (ps ++ [s.extract p e]) = items ps ++ [s.extract st en] := by
  rw [items_append, items_one h.trim]
  have := h.2.2.1
  have := h.2.2.2.2.1.le
  have := h.1.fit
  rw [ByteArray.size_extract]; omega
/-- A separator in front adds nothing. -/
theorem items_lead (s sep : ByteArray) (h1 : 1 ≤ sep.size) : items (splitB sep 0 (countB (sep ++ s) sep) (sep ++ s)) = items (splitB sep 0 (countB s sep) s) := by
  have hx : indexB (sep ++ s) sep = ((0 : Nat) : Int) := by
    refine index_hit (NoOcc.zero _ _) (Nat.zero_le _) ?_
    unfold occAt
    rw [List.drop_zero, List.isPrefixOf_iff_prefix]
    exact ⟨s.data.toList, by simp⟩
  rw [countB_hit _ sep 0 h1 hx, Nat.add_comm 1, splitB_hit sep 0 _ _ 0 hx]
  have e2 : (sep ++ s).extract (0 + sep.size) (sep ++ s).size = s := by
    rw [Nat.zero_add]
    apply ByteArray.ext
    rw [← Array.toList_inj, extract_to_end, size_eq]
    simp
  have e1 : (sep ++ s).extract 0 (0 + 0) = ⟨#[]⟩ := by
    apply ByteArray.ext
    rw [← Array.toList_inj, extract_data]
    simp
  rw [e1, e2]
  have : items (⟨#[]⟩ :: splitB sep 0 (countB s sep) s) = items [⟨#[]⟩] ++ items (splitB sep 0 (countB s sep) s) := items_append [⟨#[]⟩] _
  rw [this, items_none (by decide), List.nil_append]
end Go.Proofs.Qxb6609045aDoor
