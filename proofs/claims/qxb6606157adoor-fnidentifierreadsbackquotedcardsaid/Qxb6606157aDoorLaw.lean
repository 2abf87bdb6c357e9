import Derived.Test.Qxb6606157aDoorIdent
namespace Go.Proofs.Qxb6606157aDoor
open Go.RowKit Go.PlainAid

theorem str_self (x : ByteArray) : str x.data.toList = x := ba_eq rfl
theorem zzquoted_any (n : ByteArray) (m : Int) (w : World) (hn : n.size ≤ 1048576) (hm : w.cell? ⟨2, 0, none⟩ = some (.int .i64 m)) :
    Calls Tryd.prog 16 #[.string n] w fun e w' => e = .returned (.string (str (96 :: (dbl n.data.toList ++ [96])))) ∧ Below w.heap.size w w' := by
  have HQ : Hid (Calls Tryd.prog 22 #[.string n] w fun e w' => e = .returned (.string (str (96 :: (dbl n.data.toList ++ [96])))) ∧ Below w.heap.size w w') := quoted_any n m w hn hm
  clear hm
  go_enter Tryd.func16, Tryd.ntmps16
  go_wp2_with (go_at_call 22; refine HQ.out.mono ?_; rintro e w' ⟨rfl, hb⟩)
  go_ret
  exact ⟨rfl, hb⟩
theorem zzident_any (n t ends : ByteArray) (m : Int) (w : World) (hn : n.size ≤ 1048576) (ht : t.size ≤ 1048576) (hh : t.data.toList.head? ≠ some 96) (hm : w.cell? ⟨2, 0, none⟩ = some (.int .i64 m)) (h3 : 3 ≤ w.heap.size) :
    Calls Tryd.prog 17 #[.string (str (96 :: (dbl n.data.toList ++ 96 :: t.data.toList))), .string ends] w fun e w' => e = .returned (.tuple #[.string n, .string t]) ∧ Below w.heap.size w w' := by
  have h := identifier_any n.data.toList t.data.toList ends m w (by rw [← Lib.size_eq]; exact hn) (by rw [← Lib.size_eq]; exact ht) hh hm h3
  rw [str_self, str_self] at h
  have HQ : Hid (Calls Tryd.prog 23 #[.string (str (96 :: (dbl n.data.toList ++ 96 :: t.data.toList))), .string ends] w fun e w' => e = .returned (.tuple #[.string n, .string t]) ∧ Below w.heap.size w w') := h
  clear hm h
  go_enter Tryd.func17, Tryd.ntmps17
  go_wp2_with (go_at_call 23; refine HQ.out.mono ?_; rintro e w' ⟨rfl, hb⟩)
  go_ret2
  exact ⟨rfl, hb⟩

set_option maxRecDepth 8000 in
set_option maxHeartbeats 2000000 in
theorem bytes_any (a b c : ByteArray) (w : World) (ha : a.size ≤ 9223372036854775807) (hb : b.size ≤ 9223372036854775807) (hc : c.size ≤ 9223372036854775807) :
    Calls Tryd.prog 15 #[.string a, .string b, .string c] w fun r w' => r = .returned (.bool (decide (a.size + b.size + c.size ≤ 1048576))) ∧ w' = w := by
  go_enter Tryd.func15, Tryd.ntmps15
  go_wp2
  all_goals
    go_ret
    refine ⟨congrArg (fun x => Ending.returned (.bool x)) ?_, rfl⟩
    first
      | exact (decide_eq_true (by omega)).symm
      | exact (decide_eq_false (by omega)).symm

set_option maxRecDepth 8000 in
set_option maxHeartbeats 4000000 in
theorem law_back (n t ends : ByteArray) (m : Int) (w : World) (hn : n.size ≤ 9223372036854775807) (ht : t.size ≤ 9223372036854775807) (he : ends.size ≤ 9223372036854775807) (hm : w.cell? ⟨2, 0, none⟩ = some (.int .i64 m)) :
    Calls Tryd.prog 6 #[.string n, .string t, .string ends] w fun r w' => r = .returned (.bool true) ∧ Below w.heap.size w w' := by
  have cB : Hid (∀ W, Calls Tryd.prog 15 #[.string n, .string t, .string ends] W fun r w' => r = .returned (.bool (decide (n.size + t.size + ends.size ≤ 1048576))) ∧ w' = W) := fun W => bytes_any n t ends W hn ht he
  have hgb := get_bt t
  have h3 : 3 ≤ w.heap.size := World.block_lt_of_cell? w ⟨2, 0, none⟩ hm
  by_cases hs : n.size + t.size + ends.size ≤ 1048576
  · rw [decide_eq_true hs] at cB
    by_cases hs1 : n.size ≤ 262144 ∧ t.size ≤ 262144 ∧ ends.size ≤ 262144
    · obtain ⟨k1, k2, k3⟩ := hs1
      have g1 : ¬ 262144 < n.size := by omega
      have g2 : ¬ 262144 < t.size := by omega
      have g3 : ¬ 262144 < ends.size := by omega
      by_cases hq : 0 < t.size ∧ bt t 0 = 96
      · obtain ⟨hq0, hq1⟩ := hq
        have hq2 : (bt t 0 == 96) = true := by simpa using hq1
        have hemp : t.toList.isEmpty = false := by
          rw [Bool.eq_false_iff]
          intro h
          rw [Lib.toList_data, List.isEmpty_iff, ← List.length_eq_zero_iff, ← Lib.size_eq] at h
          omega
        clear hm hq1
        go_enter Tryd.func6, Tryd.ntmps6
        go_wp2_with (go_at_call 15; refine (cB.out _).mono ?_; rintro e w' ⟨rfl, rfl⟩)
        go_ret
        exact ⟨rfl, Below.refl _ _⟩
      · have hh : t.data.toList.head? ≠ some 96 := by
          intro h
          have hsz : 0 < t.size := by
            rw [Lib.size_eq]
            cases hl : t.data.toList with
            | nil => rw [hl] at h; cases h
            | cons _ _ => simp
          refine hq ⟨hsz, ?_⟩
          have h0 : t.data.toList[0]? = some 96 := by rw [← List.head?_eq_getElem?]; exact h
          rw [← get_bt t 0 hsz]
          have h1 : t.data.toList[0]'(by rw [← Lib.size_eq]; exact hsz) = 96 := by
            rw [List.getElem?_eq_getElem (by rw [← Lib.size_eq]; exact hsz)] at h0
            exact Option.some.inj h0
          have h2 : t[0] = 96 := h1
          rw [h2]; rfl
        have HM : Hid (∀ W, Below w.heap.size w W → W.cell? ⟨2, 0, none⟩ = some (.int .i64 m)) := fun W hW => (hW.cell (p := ⟨2, 0, none⟩) (by show 2 < w.heap.size; omega)).trans hm
        have cQ : Hid (Calls Tryd.prog 16 #[.string n] w fun e w' => e = .returned (.string (str (96 :: (dbl n.data.toList ++ [96])))) ∧ Below w.heap.size w w') := zzquoted_any n m w (by omega) hm
        have cI : Hid (∀ W, Below w.heap.size w W → Calls Tryd.prog 17 #[.string (str (96 :: (dbl n.data.toList ++ 96 :: t.data.toList))), .string ends] W fun e w' => e = .returned (.tuple #[.string n, .string t]) ∧ Below w.heap.size w w') := fun W hW =>
          (zzident_any n t ends m W (by omega) (by omega) hh (HM.out W hW) (by have := hW.size; omega)).mono fun e w' h => ⟨h.1, hW.trans (h.2.mono hW.size)⟩
        have HS : Hid (str (96 :: (dbl n.data.toList ++ [96])) ++ t = str (96 :: (dbl n.data.toList ++ 96 :: t.data.toList))) := by
          show _ = _
          apply ba_eq
          simp
        have hdl : (dbl n.data.toList).length ≤ 2097152 := by
          have := dbl_length n.data.toList
          rw [← Lib.size_eq] at this
          omega
        clear hm hh
        by_cases hz : t.size = 0
        · have hemp : t.toList.isEmpty = true := by
            rw [Lib.toList_data, List.isEmpty_iff, ← List.length_eq_zero_iff, ← Lib.size_eq]; exact hz
          clear hq hz
          go_enter Tryd.func6, Tryd.ntmps6
          go_wp2_with (first | (go_at_call 15; refine (cB.out _).mono ?_; rintro e w' ⟨rfl, rfl⟩) | (go_at_call 16; refine cQ.out.mono ?_; rintro e w1 ⟨rfl, hb1⟩))
          rw [HS.out]
          refine (cI.out _ hb1).mono ?_
          rintro e w2 ⟨rfl, hb2⟩
          go_wp2
          go_ret
          exact ⟨rfl, hb2⟩
        · have hemp : t.toList.isEmpty = false := by
            rw [Bool.eq_false_iff]
            intro h
            rw [Lib.toList_data, List.isEmpty_iff, ← List.length_eq_zero_iff, ← Lib.size_eq] at h
            exact hz h
          have hz0 : 0 < t.size := by omega
          have hq2 : (bt t 0 == 96) = false := by
            rw [Bool.eq_false_iff]
            intro h
            exact hq ⟨hz0, by simpa using h⟩
          clear hq hz
          go_enter Tryd.func6, Tryd.ntmps6
          go_wp2_with (first | (go_at_call 15; refine (cB.out _).mono ?_; rintro e w' ⟨rfl, rfl⟩) | (go_at_call 16; refine cQ.out.mono ?_; rintro e w1 ⟨rfl, hb1⟩))
          rw [HS.out]
          refine (cI.out _ hb1).mono ?_
          rintro e w2 ⟨rfl, hb2⟩
          go_wp2
          go_ret
          exact ⟨rfl, hb2⟩
    · clear hm
      go_enter Tryd.func6, Tryd.ntmps6
      go_wp2_with (go_at_call 15; refine (cB.out _).mono ?_; rintro e w' ⟨rfl, rfl⟩)
      all_goals first
        | (exfalso; omega)
        | (go_ret; exact ⟨rfl, Below.refl _ _⟩)
  · rw [decide_eq_false hs] at cB
    clear hm
    go_enter Tryd.func6, Tryd.ntmps6
    go_wp2_with (go_at_call 15; refine (cB.out _).mono ?_; rintro e w' ⟨rfl, rfl⟩)
    go_ret
    exact ⟨rfl, Below.refl _ _⟩
end Go.Proofs.Qxb6606157aDoor
