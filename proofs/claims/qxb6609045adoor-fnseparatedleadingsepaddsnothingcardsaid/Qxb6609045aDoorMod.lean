import Derived.Test.Qxb6609045aDoorSep
import Derived.Deep.CutRange
import Derived.Deep.Light
import Derived.Deep.CutBlock
import Derived.Deep.DeepCutAuto
namespace Go.Proofs.Qxb6609045aDoor
open Go.RowKit Go.PlainAid

/-- Does sep stand at place i of s? -/
def hasB (s sep : ByteArray) (i : Nat) : Bool := decide (i + sep.size ≤ s.size ∧ ∀ k, k < sep.size → bt s (i + k) = bt sep k)
theorem ret_bool {a b : Bool} (h : a = b) : Ending.returned (.bool a) = .returned (.bool b) := by rw [h]
theorem ret_int {k : IntKind} {a b : Int} (h : a = b) : Ending.returned (.int k a) = .returned (.int k b) := by rw [h]

set_option maxRecDepth 8000 in
set_option maxHeartbeats 2000000 in
theorem hasAt_any (s sep : ByteArray) (i : Nat) (w : World) (hs : s.size ≤ 4194304) (hp : sep.size ≤ 4194304) (hi : i ≤ s.size) :
    Calls Tryd.prog 21 #[.string s, .int .i64 i, .string sep] w fun r w' => r = .returned (.bool (hasB s sep i)) ∧ ∃ n, w' = w.drewN n := by
  have hiI : (i : Int) ≤ (s.size : Int) := by omega
  have hgb := get_bt s
  have hgp := get_bt sep
  have hd : decide (s.size < i) = false := decide_eq_false (by omega)
  have hd0 : decide ((i : Int) < 0) = false := decide_eq_false (by omega)
  by_cases hf : i + sep.size ≤ s.size
  · have hfI : (sep.size : Int) ≤ (s.size : Int) - (i : Int) := by omega
    go_enter Tryd.func21, Tryd.ntmps21
    go_wp2_with fail
    go_loopg [7] sep.size (fun g iv wr => ∃ k : Nat, g = sep.size - k ∧ iv = .int .i64 k ∧ k ≤ sep.size ∧ (∀ j, j < k → bt s (i + j) = bt sep j) ∧ ∃ n, wr = w.drewN n)
    case atStart => exact ⟨0, rfl, rfl, Nat.zero_le _, fun j hj => by omega, 0, rfl⟩
    case round =>
      obtain ⟨k, hg, rfl, hk, hall, n, rfl⟩ := hrel
      have HG : Hid (gk = sep.size - k) := hg
      have HA : Hid (∀ j, j < k → bt s (i + j) = bt sep j) := hall
      clear hg hall
      by_cases hlt : k < sep.size
      · have h1 : (k : Int) < (sep.size : Int) := by omega
        have h2 : (i : Int) + (k : Int) < (s.size : Int) := by omega
        have h3 : (0 : Int) ≤ (i : Int) + (k : Int) := by omega
        have h4 : ((i : Int) + (k : Int)).toNat = i + k := by omega
        have h5 : i + k < s.size := by omega
        have h6 : ¬ ((i : Int) + (k : Int) < 0) := by omega
        go_wp2_with fail
        go_region
        cases hq : (bt s (i + k) != bt sep k) with
        | true =>
          have HQ : Hid ((bt s (i + k) != bt sep k) = true) := hq
          clear hq
          go_wp2_with fail
          go_ret
          refine ⟨ret_bool ?_, n + 1, rfl⟩
          have hne : bt s (i + k) ≠ bt sep k := by simpa using HQ.out
          symm
          unfold hasB
          rw [decide_eq_false_iff_not]
          exact fun h => hne (h.2 k hlt)
        | false =>
          have HQ : Hid ((bt s (i + k) != bt sep k) = false) := hq
          clear hq
          go_wp2_with fail
          go_roundg (sep.size - (k + 1))
          case measure => have := HG.out; omega
          case rel => exact ⟨k + 1, rfl, by go_num, by omega, fun j hj => by
            rcases Nat.lt_or_ge j k with h | h
            · exact HA.out j h
            · obtain rfl : j = k := by omega
              simpa using HQ.out, n + 1, rfl⟩
      · go_wp2
        go_ret
        refine ⟨ret_bool ?_, n, rfl⟩
        symm
        unfold hasB
        rw [decide_eq_true_iff]
        exact ⟨hf, fun j hj => HA.out j (by omega)⟩
  · have hfI : ¬ (sep.size : Int) ≤ (s.size : Int) - (i : Int) := by omega
    go_enter Tryd.func21, Tryd.ntmps21
    go_wp2
    go_ret
    refine ⟨ret_bool ?_, 0, rfl⟩
    symm
    unfold hasB
    rw [decide_eq_false_iff_not]
    exact fun h => hf h.1

/-- The width of the white space character at place i, by its bytes; 0: none. -/
def spW (s : ByteArray) (i : Nat) : Nat :=
  if bt s i = 9 ∨ bt s i = 10 ∨ bt s i = 11 ∨ bt s i = 12 ∨ bt s i = 13 ∨ bt s i = 32 then 1
  else if bt s i = 194 then (if bt s (i + 1) = 133 ∨ bt s (i + 1) = 160 then 2 else 0)
  else if bt s i = 225 then (if bt s (i + 1) = 154 ∧ bt s (i + 2) = 128 then 3 else 0)
  else if bt s i = 226 then (if (bt s (i + 1) = 128 ∧ ((128 ≤ bt s (i + 2) ∧ bt s (i + 2) ≤ 138) ∨ bt s (i + 2) = 168 ∨ bt s (i + 2) = 169 ∨ bt s (i + 2) = 175)) ∨ (bt s (i + 1) = 129 ∧ bt s (i + 2) = 159) then 3 else 0)
  else if bt s i = 227 then (if bt s (i + 1) = 128 ∧ bt s (i + 2) = 128 then 3 else 0)
  else 0
theorem spW_le (s : ByteArray) (i : Nat) : spW s i ≤ 3 := by
  unfold spW
  repeat' split
  all_goals omega
theorem bt_in (s : ByteArray) {k : Nat} (h : 1 ≤ bt s k) : k < s.size := by
  rcases Nat.lt_or_ge k s.size with h1 | h1
  · exact h1
  · rw [bt_end s h1] at h; omega
theorem spW_fits (s : ByteArray) (i : Nat) (h : i < s.size) : i + spW s i ≤ s.size := by
  have h1 := @bt_in s (i + 1)
  have h2 := @bt_in s (i + 2)
  unfold spW
  repeat' split
  all_goals omega
/-- .. 0, too, where sep begins inside it. -/
def spB (s sep : ByteArray) (i : Nat) : Nat := if (2 ≤ spW s i ∧ hasB s sep (i + 1) = true) ∨ (3 ≤ spW s i ∧ hasB s sep (i + 2) = true) then 0 else spW s i

set_option maxRecDepth 8000 in
set_option maxHeartbeats 2000000 in
theorem spaceWidth_any (s sep : ByteArray) (i : Nat) (w : World) (hs : s.size ≤ 4194304) (hp : sep.size ≤ 4194304) (hi : i < s.size) :
    Calls Tryd.prog 22 #[.string s, .int .i64 i, .string sep] w fun r w' => r = .returned (.int .i64 (spB s sep i)) ∧ ∃ n, w' = w.drewN n := by
  have hiI : (i : Int) < (s.size : Int) := by omega
  have hgb := get_bt s
  have HE1 : Hid (s.size ≤ i + 1 → bt s (i + 1) = 0) := fun h => bt_end s h
  have HE2 : Hid (s.size ≤ i + 2 → bt s (i + 2) = 0) := fun h => bt_end s h
  go_enter Tryd.func22, Tryd.ntmps22
  go_upto_block 0 with fail
  go_cut [7] (fun v wc => v = .int .i64 (spW s i) ∧ wc = w)
  case first =>
    go_wp2_with fail
    all_goals
      go_meet
      go_light
      have e1 := HE1.out
      have e2 := HE2.out
      refine ⟨?_, rfl⟩
      refine congrArg (Value.int .i64) ?_
      simp only [beq_eq_false_iff_ne, beq_iff_eq, ne_eq] at *
      unfold spW
      repeat' split
      all_goals first | rfl | omega
  case rest =>
    obtain ⟨rfl, rfl⟩ := hcut
    have hle := spW_le s i
    have hfit := spW_fits s i hi
    clear hgb HE1 HE2
    have HSP : Hid ((∀ j, 1 ≤ j → j < spW s i → hasB s sep (i + j) = false) → spB s sep i = spW s i) := fun h => by
      unfold spB
      rw [if_neg]
      rintro (⟨h1, h2⟩ | ⟨h1, h2⟩)
      · rw [h 1 (by omega) (by omega)] at h2; cases h2
      · rw [h 2 (by omega) (by omega)] at h2; cases h2
    have HSZ : Hid (∀ j, 1 ≤ j → j < spW s i → hasB s sep (i + j) = true → spB s sep i = 0) := fun j h1 h2 h3 => by
      unfold spB
      rw [if_pos]
      rcases (show j = 1 ∨ j = 2 by omega) with rfl | rfl
      · exact Or.inl ⟨by omega, h3⟩
      · exact Or.inr ⟨by omega, h3⟩
    generalize spW s i = W at *
    go_wp2_with fail
    go_loopg [11] (W - 1) (fun g iv wr => ∃ k : Nat, g = W - k ∧ iv = .int .i64 k ∧ 1 ≤ k ∧ (∀ j, 1 ≤ j → j < k → hasB s sep (i + j) = false) ∧ ∃ n, wr = wc.drewN n)
    case atStart => exact ⟨1, rfl, rfl, Nat.le_refl _, fun j h1 h2 => by omega, 0, rfl⟩
    case round =>
      obtain ⟨k, hg, rfl, hk, hall, n, rfl⟩ := hrel
      have HG : Hid (gk = W - k) := hg
      have HA : Hid (∀ j, 1 ≤ j → j < k → hasB s sep (i + j) = false) := hall
      clear hg hall
      by_cases hlt : k < W
      · have h1 : (k : Int) < (W : Int) := by omega
        have cH := hasAt_any s sep (i + k) (wc.drewN n) hs hp (by omega)
        rw [Int.natCast_add] at cH
        have HH : Hid (Calls Tryd.prog 21 #[.string s, .int .i64 ((i : Int) + (k : Int)), .string sep] (wc.drewN n) fun r w' => r = .returned (.bool (hasB s sep (i + k))) ∧ ∃ m, w' = (wc.drewN n).drewN m) := cH
        clear cH
        cases hq : hasB s sep (i + k) with
        | true =>
          go_wp2_with (go_at_call 21; refine HH.out.mono ?_; rintro e w' ⟨rfl, m, rfl⟩)
          go_ret
          exact ⟨ret_int (by rw [HSZ.out k hk hlt hq]; rfl), _, rfl⟩
        | false =>
          go_wp2_with (go_at_call 21; refine HH.out.mono ?_; rintro e w' ⟨rfl, m, rfl⟩)
          go_roundg (W - (k + 1))
          case measure => have := HG.out; omega
          case rel => exact ⟨k + 1, rfl, by go_num, by omega, fun j h1 h2 => by
            rcases Nat.lt_or_ge j k with h | h
            · exact HA.out j h1 h
            · obtain rfl : j = k := by omega
              exact hq, _, rfl⟩
      · go_wp2
        go_ret
        exact ⟨ret_int (by rw [HSP.out (fun j h1 h2 => HA.out j h1 (by omega))]), n, rfl⟩
end Go.Proofs.Qxb6609045aDoor
