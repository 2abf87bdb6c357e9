import Derived.Lib.Replace
import Derived.Lib.CutLaws
import Derived.Lib.IndexBytes
namespace Go.Proofs.Qxb6606157aDoor

/-- Each backquote doubled. -/
def dbl : List UInt8 → List UInt8
  | [] => []
  | c :: r => if c = 96 then 96 :: 96 :: dbl r else c :: dbl r
theorem dbl_append : ∀ a b : List UInt8, dbl (a ++ b) = dbl a ++ dbl b
  | [], _ => rfl
  | c :: a, b => by
    rw [List.cons_append, dbl, dbl, dbl_append a b]
    split <;> rfl
theorem dbl_plain : ∀ a : List UInt8, 96 ∉ a → dbl a = a
  | [], _ => rfl
  | c :: a, h => by
    rw [dbl, if_neg (fun e => h (by rw [e]; exact List.mem_cons_self)), dbl_plain a (fun e => h (List.mem_cons_of_mem _ e))]
theorem dbl_mid (a r : List UInt8) (h : 96 ∉ a) : dbl (a ++ 96 :: r) = a ++ 96 :: 96 :: dbl r := by
  rw [dbl_append, dbl_plain a h, dbl, if_pos rfl]
theorem dbl_length : ∀ a : List UInt8, (dbl a).length ≤ 2 * a.length
  | [] => Nat.le_refl _
  | c :: a => by
    have := dbl_length a
    rw [dbl]
    split <;> simp <;> omega
theorem first_or : ∀ r : List UInt8, 96 ∉ r ∨ ∃ a r', r = a ++ 96 :: r' ∧ 96 ∉ a
  | [] => Or.inl (by simp)
  | c :: r => by
    by_cases hc : c = 96
    · exact Or.inr ⟨[], r, by rw [hc]; rfl, by simp⟩
    · rcases first_or r with h | ⟨a, r', rfl, h⟩
      · exact Or.inl (by simp [h, Ne.symm hc])
      · exact Or.inr ⟨c :: a, r', rfl, by simp [h, Ne.symm hc]⟩

theorem occ_one (l : List UInt8) (a : UInt8) (k : Nat) : Lib.occAt l [a] k = (l[k]? == some a) := by
  unfold Lib.occAt
  rw [show l[k]? = (l.drop k)[0]? by rw [List.getElem?_drop]; rfl]
  cases l.drop k with
  | nil => rfl
  | cons x r =>
    show (a == x && List.isPrefixOf [] r) = (some x == some a)
    rw [show List.isPrefixOf ([] : List UInt8) r = true from rfl, Bool.and_true, Bool.eq_iff_iff]
    constructor
    · intro h; rw [beq_iff_eq] at h ⊢; rw [h]
    · intro h; rw [beq_iff_eq] at h ⊢; exact (Option.some.inj h).symm
theorem index_at (a z : List UInt8) (h : 96 ∉ a) : Lib.index (a ++ 96 :: z) [96] = a.length := by
  refine Lib.index_hit (fun j hj => ?_) (by simp) ?_
  · rw [occ_one, List.getElem?_append_left hj, List.getElem?_eq_getElem hj, Bool.eq_false_iff]
    intro hq
    have : a[j] = 96 := by simpa using hq
    exact h (by rw [← this]; exact List.getElem_mem hj)
  · rw [occ_one, List.getElem?_append_right (Nat.le_refl _), Nat.sub_self]
    rfl
theorem index_no (a : List UInt8) (h : 96 ∉ a) : Lib.index a [96] = -1 := by
  refine Lib.index_none fun j _ => ?_
  rw [occ_one, Bool.eq_false_iff]
  intro hq
  have : a[j]? = some 96 := by simpa using hq
  exact h (List.mem_of_getElem? this)
theorem drop_one (a z : List UInt8) : (a ++ 96 :: z).drop (a.length + ([96] : List UInt8).length) = z := by
  show (a ++ 96 :: z).drop (a.length + 1) = z
  rw [← List.drop_drop, List.drop_left]
  rfl
theorem cut_at (a z : List UInt8) (h : 96 ∉ a) : Lib.cut (a ++ 96 :: z) [96] = (a, z, true) := by
  unfold Lib.cut
  rw [index_at a z h, if_pos (by omega), Int.toNat_natCast, List.take_left]
  rw [drop_one]
theorem cut_last (r t : List UInt8) (h : 96 ∉ r) : Lib.cut (dbl r ++ 96 :: t) [96] = (r, t, true) := by rw [dbl_plain r h, cut_at r t h]
theorem cut_mid (a r t : List UInt8) (h : 96 ∉ a) : Lib.cut (dbl (a ++ 96 :: r) ++ 96 :: t) [96] = (a, 96 :: (dbl r ++ 96 :: t), true) := by
  rw [dbl_mid a r h, List.append_assoc]
  exact cut_at a _ h
theorem replace_count : ∀ (k : Nat) (n : List UInt8), n.length ≤ k → Lib.replaceK [96] [96, 96] (Lib.count n [96]) n = dbl n
  | 0, n, hk => by
    have : n = [] := List.length_eq_zero_iff.1 (by omega)
    subst this
    rw [Lib.count_miss (index_no [] (by simp))]
    rfl
  | k + 1, n, hk => by
    rcases first_or n with h | ⟨a, r, rfl, h⟩
    · rw [Lib.count_miss (index_no n h), dbl_plain n h]; rfl
    · have hx := index_at a r h
      have hd := drop_one a r
      rw [Lib.count_hit (by simp) hx, hd, Nat.add_comm 1, Lib.replaceK_hit _ _ _ _ _ hx, hd, replace_count k r (by simp at hk; omega), dbl_mid a r h, List.take_left]
      simp
theorem replace_dbl (n : List UInt8) : Lib.replaceAll n [96] [96, 96] = dbl n := by
  unfold Lib.replaceAll Lib.replace
  rw [if_neg (by decide)]
  have : Lib.replaceNum n [96] (-1) = Lib.count n [96] := by unfold Lib.replaceNum; rw [if_pos (Or.inl (by decide))]
  rw [this]
  exact replace_count n.length n (Nat.le_refl _)
end Go.Proofs.Qxb6606157aDoor
