import Derived.Test.Qxb6606142aDoorQuote
import Derived.Lib.SpaceUEq
namespace Go.Proofs.Qxb6606142aDoor
open Go.Lib

/-- A token: a quoted text, or a sign that stands alone. -/
abbrev Tk : Type := List UInt8 ⊕ UInt8
def Tk.txt : Tk → List UInt8
  | .inl x => quo x
  | .inr c => [c]
def Tk.val : Tk → List UInt8
  | .inl x => x
  | .inr c => [c]
def Tk.ok : Tk → Prop
  | .inl _ => True
  | .inr c => c = 61 ∨ c = 59
/-- The text of tokens; a blank stands before some. -/
def text : List (Bool × Tk) → List UInt8
  | [] => []
  | (b, k) :: r => (if b then [32] else []) ++ (k.txt ++ text r)
/-- .. the first one's blank left out. -/
def bare : List (Bool × Tk) → List UInt8
  | [] => []
  | (_, k) :: r => k.txt ++ text r
theorem text_append : ∀ a b : List (Bool × Tk), text (a ++ b) = text a ++ text b
  | [], _ => rfl
  | (b, k) :: a, c => by simp [text, text_append a c]
/-- Tokens that end with a semicolon. -/
def Good (R : List (Bool × Tk)) : Prop := (∀ k ∈ R, k.2.ok) ∧ (R = [] ∨ ∃ P, R = P ++ [(false, .inr 59)])
theorem Good.tail {k : Bool × Tk} {R : List (Bool × Tk)} (h : Good (k :: R)) : Good R := by
  refine ⟨fun x hx => h.1 x (List.mem_cons_of_mem _ hx), ?_⟩
  rcases h.2 with h | ⟨P, h⟩
  · cases h
  · cases P with
    | nil =>
      simp at h
      exact Or.inl h.2
    | cons y P =>
      simp at h
      exact Or.inr ⟨P, h.2⟩
theorem text_last {R : List (Bool × Tk)} (h : Good R) (hne : R ≠ []) : ∃ z, text R = z ++ [59] := by
  rcases h.2 with h' | ⟨P, rfl⟩
  · exact absurd h' hne
  · exact ⟨text P, by rw [text_append]; rfl⟩
theorem bare_last {R : List (Bool × Tk)} (h : Good R) (hne : R ≠ []) : ∃ z, bare R = z ++ [59] := by
  cases R with
  | nil => exact absurd rfl hne
  | cons k R =>
    obtain ⟨b, k⟩ := k
    by_cases hR : R = []
    · subst hR
      rcases h.2 with h' | ⟨P, h'⟩
      · cases h'
      · cases P with
        | nil => simp at h'; exact ⟨[], by simp [bare, h'.2, Tk.txt, text]⟩
        | cons y P => simp at h'
    · obtain ⟨z, hz⟩ := text_last h.tail hR
      exact ⟨k.txt ++ z, by simp [bare, hz]⟩
theorem bare_first {R : List (Bool × Tk)} (h : Good R) (hne : R ≠ []) : ∃ c z, bare R = c :: z ∧ (c = 34 ∨ c = 61 ∨ c = 59) := by
  cases R with
  | nil => exact absurd rfl hne
  | cons k R =>
    obtain ⟨b, k⟩ := k
    have := h.1 _ List.mem_cons_self
    cases k with
    | inl x => exact ⟨34, _, rfl, Or.inl rfl⟩
    | inr c => exact ⟨c, _, rfl, Or.inr this⟩

theorem head_no (c : UInt8) (z : List UInt8) (h : c = 34 ∨ c = 61 ∨ c = 59) : headSpace (c :: z) = 0 := by
  rcases h with rfl | rfl | rfl <;> simp [headSpace, spaceSeqs, List.isPrefixOf]
theorem head_blank (z : List UInt8) : headSpace (32 :: z) = 1 := by simp [headSpace, spaceSeqs, List.isPrefixOf]
theorem last_no : ∀ q ∈ spaceSeqs, q ≠ [] ∧ q.getLast? ≠ some 59 := by decide
theorem tail_no (z : List UInt8) : tailSpace (z ++ [59]) = 0 := by
  unfold tailSpace
  rw [List.find?_eq_none.2 fun q hq => by
    rw [List.isSuffixOf_iff_suffix]
    rintro ⟨t, ht⟩
    obtain ⟨h1, h2⟩ := last_no q hq
    apply h2
    have := congrArg List.getLast? ht
    rw [List.getLast?_append, List.getLast?_append] at this
    cases hl : q.getLast? with
    | none => exact absurd (List.getLast?_eq_none_iff.1 hl) h1
    | some x =>
      rw [hl] at this
      simpa using this]
  rfl
theorem strip_stop (f : Nat) (l : List UInt8) (h : headSpace l = 0) : stripL f l = l := by
  cases f with
  | zero => rfl
  | succ f => rw [stripL, if_pos h]
theorem stripR_stop (f : Nat) (l : List UInt8) (h : tailSpace l = 0) : stripR f l = l := by
  cases f with
  | zero => rfl
  | succ f => rw [stripR, if_pos h]
theorem trim_bare {R : List (Bool × Tk)} (h : Good R) : trimSpaceD (bare R) = bare R := by
  rw [← trimSpaceU_eq]
  by_cases hne : R = []
  · subst hne; rfl
  · obtain ⟨c, z, hc, hk⟩ := bare_first h hne
    obtain ⟨y, hy⟩ := bare_last h hne
    unfold trimSpaceU
    rw [strip_stop _ _ (by rw [hc]; exact head_no c z hk), stripR_stop _ _ (by rw [hy]; exact tail_no y)]
/-- What TrimSpace makes of the text that is left. -/
theorem trim_text {R : List (Bool × Tk)} (h : Good R) : trimSpaceD (text R) = bare R := by
  cases R with
  | nil => rfl
  | cons k R =>
    obtain ⟨b, k⟩ := k
    cases b with
    | false => exact trim_bare h
    | true =>
      obtain ⟨c, z, hc, hk⟩ := bare_first h (by simp)
      obtain ⟨y, hy⟩ := bare_last h (by simp)
      have e : text ((true, k) :: R) = 32 :: bare ((true, k) :: R) := rfl
      rw [← trimSpaceU_eq, e]
      unfold trimSpaceU
      rw [List.length_cons, stripL, if_neg (by rw [head_blank]; decide), head_blank]
      show stripR _ (stripL _ (bare ((true, k) :: R))) = _
      rw [strip_stop _ _ (by rw [hc]; exact head_no c z hk), stripR_stop _ _ (by rw [hy]; exact tail_no y)]
end Go.Proofs.Qxb6606142aDoor
