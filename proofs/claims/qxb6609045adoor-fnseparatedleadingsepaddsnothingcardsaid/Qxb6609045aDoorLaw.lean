import Derived.Test.Qxb6609045aDoorModel
namespace Go.Proofs.Qxb6609045aDoor
open Go.RowKit Go.PlainAid
open Go.Lib

/-- Do the two lengths sum to at most a megabyte? -/
theorem bytes_any (s sep : ByteArray) (w : World) (hs : s.size ≤ 9223372036854775807) (hp : sep.size ≤ 9223372036854775807) :
    Calls Tryd.prog 18 #[.string s, .string sep] w fun r w' => r = .returned (.bool (decide (s.size + sep.size ≤ 1048576))) ∧ w' = w := by
  by_cases h1 : s.size ≤ 1048576
  · by_cases h2 : sep.size ≤ 1048576
    · by_cases h3 : s.size + sep.size ≤ 1048576
      · have e1 : decide (1048576 < (s.size : Int)) = false := decide_eq_false (by omega)
        have e2 : decide (1048576 < (sep.size : Int)) = false := decide_eq_false (by omega)
        have e3 : decide (1048576 < (s.size : Int) + (sep.size : Int)) = false := decide_eq_false (by omega)
        have e4 : decide (s.size + sep.size ≤ 1048576) = true := decide_eq_true h3
        have g1 : ¬ 1048576 < s.size := by omega
        have g2 : ¬ 1048576 < sep.size := by omega
        have g3 : ¬ 1048576 < s.size + sep.size := by omega
        rw [e4]
        clear e4
        go_enter Tryd.func18, Tryd.ntmps18
        go_wp2
        go_ret
        exact ⟨rfl, rfl⟩
      · have e1 : decide (1048576 < (s.size : Int)) = false := decide_eq_false (by omega)
        have e2 : decide (1048576 < (sep.size : Int)) = false := decide_eq_false (by omega)
        have e3 : decide (1048576 < (s.size : Int) + (sep.size : Int)) = true := decide_eq_true (by omega)
        have e4 : decide (s.size + sep.size ≤ 1048576) = false := decide_eq_false h3
        have g1 : ¬ 1048576 < s.size := by omega
        have g2 : ¬ 1048576 < sep.size := by omega
        have g3 : 1048576 < s.size + sep.size := by omega
        rw [e4]
        clear e4
        go_enter Tryd.func18, Tryd.ntmps18
        go_wp2
        go_ret
        exact ⟨rfl, rfl⟩
    · have e1 : decide (1048576 < (s.size : Int)) = false := decide_eq_false (by omega)
      have e2 : decide (1048576 < (sep.size : Int)) = true := decide_eq_true (by omega)
      have e4 : decide (s.size + sep.size ≤ 1048576) = false := decide_eq_false (by omega)
      have g1 : ¬ 1048576 < s.size := by omega
      have g2 : 1048576 < sep.size := by omega
      rw [e4]
      clear e4
      go_enter Tryd.func18, Tryd.ntmps18
      go_wp2
      go_ret
      exact ⟨rfl, rfl⟩
  · have e1 : decide (1048576 < (s.size : Int)) = true := decide_eq_true (by omega)
    have e4 : decide (s.size + sep.size ≤ 1048576) = false := decide_eq_false (by omega)
    have g1 : 1048576 < s.size := by omega
    rw [e4]
    clear e4
    go_enter Tryd.func18, Tryd.ntmps18
    go_wp2
    go_ret
    exact ⟨rfl, rfl⟩

theorem split_size (sep : ByteArray) : ∀ (k : Nat) (s : ByteArray), ∀ x ∈ splitB sep 0 k s, x.size ≤ s.size
  | 0, s, x, hx => by rw [splitB_zero] at hx; rw [List.mem_singleton.1 hx]; exact Nat.le_refl _
  | k + 1, s, x, hx => by
    rcases indexB_cases s sep with h | ⟨i, h, hr⟩
    · rw [splitB_miss sep 0 _ s h] at hx; rw [List.mem_singleton.1 hx]; exact Nat.le_refl _
    · rw [splitB_hit sep 0 k s i h] at hx
      rcases List.mem_cons.1 hx with rfl | hx
      · rw [ByteArray.size_extract]; omega
      · have := split_size sep k _ x hx
        rw [ByteArray.size_extract] at this
        omega
theorem items_le (s sep : ByteArray) (h1 : 1 ≤ sep.size) : (items (splitB sep 0 (countB s sep) s)).length ≤ s.size + 1 := by
  have h2 := items_length (splitB sep 0 (countB s sep) s)
  rw [splitB_all sep h1 0 _ s rfl] at h2
  have := countB_le sep h1 s.size s (Nat.le_refl _)
  omega
theorem separated_all (s sep : ByteArray) (m : Int) (w : World) (hs : s.size ≤ 4194304) (h1 : 1 ≤ sep.size) (hV : Vars m w) :
    Calls Tryd.prog 19 #[.string s, .string sep] w fun r w' => ∃ v, r = .returned v ∧ Strs w.heap.size v (items (splitB sep 0 (countB s sep) s)) w' ∧ Below w.heap.size w w' :=
  separated_any s sep m w hs h1 hV (by have := countB_le sep h1 s.size s (Nat.le_refl _); omega) (splitB_all sep h1 0 _ s rfl) (fun x hx => by have := split_size sep _ s x hx; omega)

set_option maxRecDepth 8000 in
set_option maxHeartbeats 4000000 in
theorem law_lead (s sep : ByteArray) (m : Int) (w : World) (hV : Vars m w) (hs : s.size ≤ 9223372036854775807) (hp : sep.size ≤ 9223372036854775807) :
    Calls Tryd.prog 7 #[.string s, .string sep] w fun r w' => r = .returned (.bool true) ∧ Below w.heap.size w w' := by
  have cB : Hid (∀ W, Calls Tryd.prog 18 #[.string s, .string sep] W fun r w' => r = .returned (.bool (decide (s.size + sep.size ≤ 1048576))) ∧ w' = W) := fun W => bytes_any s sep W hs hp
  by_cases h3 : s.size + sep.size ≤ 1048576
  · rw [decide_eq_true h3] at cB
    have e1 : decide (1048576 < (s.size : Int)) = false := decide_eq_false (by omega)
    have e2 : decide (1048576 - (s.size : Int) < (sep.size : Int)) = false := decide_eq_false (by omega)
    have g1 : ¬ 1048576 < s.size := by omega
    by_cases h1 : 1 ≤ sep.size
    · have he : sep.toList.isEmpty = false := by rw [isEmpty_of]; exact decide_eq_false (by omega)
      have hs4 : s.size ≤ 4194304 := by omega
      have hp4 : sep.size ≤ 4194304 := by omega
      have hc4 : (sep ++ s).size ≤ 4194304 := by rw [ByteArray.size_append]; omega
      have hlead := items_lead s sep h1
      have hil := items_le s sep h1
      have HV : Hid (Vars m w) := hV
      have HLd : Hid (items (splitB sep 0 (countB (sep ++ s) sep) (sep ++ s)) = items (splitB sep 0 (countB s sep) s)) := hlead
      have HIl : Hid ((items (splitB sep 0 (countB s sep) s)).length ≤ 4194304) := by show _ ≤ _; omega
      have H1 : Hid (1 ≤ sep.size) := h1
      clear hV hlead hil h1
      go_enter Tryd.func7, Tryd.ntmps7
      go_wp2_with (go_at_call 18; refine (cB.out _).mono ?_; rintro e w' ⟨rfl, rfl⟩)
      refine (separated_all s sep m _ hs4 H1.out HV.out).mono ?_
      rintro e w1 ⟨v1, rfl, hS1, hB1⟩
      have HS1 : Hid (Strs w'.heap.size v1 (items (splitB sep 0 (countB s sep) s)) w1) := hS1
      have HB1 : Hid (Below w'.heap.size w' w1) := hB1
      clear hS1 hB1
      go_wp2_with fail
      refine (model_any s sep _ hs4 hp4 H1.out).mono ?_
      rintro e w2 ⟨v2, rfl, hS2, hB2⟩
      have HS2 : Hid (Strs w1.heap.size v2 (items (splitB sep 0 (countB s sep) s)) w2) := hS2
      have HS1' : Hid (Strs w'.heap.size v1 (items (splitB sep 0 (countB s sep) s)) w2) := HS1.out.grown hB2
      have HB2 : Hid (Below w'.heap.size w' w2) := HB1.out.trans (hB2.mono HB1.out.size)
      clear hS2 hB2 HS1 HB1
      go_wp2_with fail
      refine (same_any _ _ _ _ _ _ HS1'.out HS2.out HIl.out).mono ?_
      rintro e w3 ⟨rfl, n, rfl⟩
      have HB3 : Hid (Below w'.heap.size w' (w2.drewN n)) := below_drewN HB2.out n
      have HS3 : Hid (Strs w'.heap.size v1 (items (splitB sep 0 (countB s sep) s)) (w2.drewN n)) := HS1'.out.drewN n
      clear HB2 HS1' HS2
      go_wp2_with fail
      refine (separated_all (sep ++ s) sep m _ hc4 H1.out (HV.out.below HB3.out)).mono ?_
      rintro e w4 ⟨v4, rfl, hS4, hB4⟩
      rw [HLd.out] at hS4
      have HS4 : Hid (Strs (w2.drewN n).heap.size v4 (items (splitB sep 0 (countB s sep) s)) w4) := hS4
      have HS5 : Hid (Strs w'.heap.size v1 (items (splitB sep 0 (countB s sep) s)) w4) := HS3.out.grown hB4
      have HB4 : Hid (Below w'.heap.size w' w4) := HB3.out.trans (hB4.mono HB3.out.size)
      clear hS4 hB4 HS3 HB3
      go_wp2_with fail
      refine (same_any _ _ _ _ _ _ HS4.out HS5.out HIl.out).mono ?_
      rintro e w5 ⟨rfl, n', rfl⟩
      go_wp2
      go_ret
      exact ⟨rfl, below_drewN HB4.out n'⟩
    · have he : sep.toList.isEmpty = true := by rw [isEmpty_of]; exact decide_eq_true (by omega)
      go_enter Tryd.func7, Tryd.ntmps7
      go_wp2_with (go_at_call 18; refine (cB.out _).mono ?_; rintro e w' ⟨rfl, rfl⟩)
      go_ret
      exact ⟨rfl, Below.refl _ _⟩
  · rw [decide_eq_false h3] at cB
    go_enter Tryd.func7, Tryd.ntmps7
    go_wp2_with (go_at_call 18; refine (cB.out _).mono ?_; rintro e w' ⟨rfl, rfl⟩)
    go_ret
    exact ⟨rfl, Below.refl _ _⟩
end Go.Proofs.Qxb6609045aDoor
