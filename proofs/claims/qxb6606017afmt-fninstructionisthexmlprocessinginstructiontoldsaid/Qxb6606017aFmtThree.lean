import Derived.Test.Qxb6606017aFmtMdl
import Derived.Test.Qxb6606017aFmtAt
namespace Go.Proofs.Qxb6606017aFmt
open Go.RowKit Go.PlainAid
open Go.Extern.Stop Go.Stop Go.Extern

theorem zzBytes1_any (s : ByteArray) (p : Int) (w : World) (hs : s.size ≤ 9223372036854775807) : Calls Tryf.prog 8 #[.string s, .int .i64 p] w fun r w' => r = .returned (.bool (decide (s.size ≤ 1048576))) ∧ w' = w := by
  by_cases h : s.size ≤ 1048576
  · have e1 : decide (1048576 < (s.size : Int)) = false := decide_eq_false (by omega)
    have e2 : ¬ 1048576 < s.size := by omega
    rw [decide_eq_true h]
    go_enter Tryf.func8, Tryf.ntmps8
    go_wp2
    go_ret
    exact ⟨rfl, rfl⟩
  · have e1 : decide (1048576 < (s.size : Int)) = true := decide_eq_true (by omega)
    have e2 : 1048576 < s.size := by omega
    rw [decide_eq_false h]
    go_enter Tryf.func8, Tryf.ntmps8
    go_wp2
    go_ret
    exact ⟨rfl, rfl⟩

/-- What the parser and the model both answer at a place. -/
theorem both_any (s : ByteArray) (a : Nat) (m : Int) (w : World) (hs : s.size ≤ 1048576) (ha : a + 2 ≤ s.size) (hT : Lib.Utf8Tabs 0 1 w) (hA : Folds w) (hm : w.cell? ⟨5, 0, none⟩ = some (.int .i64 m)) :
    ∃ (P : Nat) (B : Bool) (L : Nat), (Calls Tryf.prog 9 #[.string s, .int .i64 a] w fun r w' => Below w.heap.size w w' ∧ r = .returned (.tuple #[.int .i64 P, .bool B, .int .i64 L])) ∧
      ∀ W, Calls Tryf.prog 10 #[.string s, .int .i64 a] W fun r w' => (∃ n, w' = W.drewN n) ∧ r = .returned (.tuple #[.int .i64 P, .bool B, .int .i64 L]) := by
  obtain ⟨R, hR⟩ : ∃ R, R = s.extract (a + 2) s.size := ⟨_, rfl⟩
  have hRz : R.size = s.size - (a + 2) := by rw [hR, ByteArray.size_extract]; omega
  obtain ⟨e, hE, _, heR⟩ := Stops.exists (g := nstep R 0) (n := R.size) (a := 0) (Nat.zero_le _) (fun i z hi hz => nstep_fits R 0 i z hi hz)
  have hE1 : Stops (nstep s (a + 2)) s.size (a + 2) (a + 2 + e) := stops_tail (g' := nstep R 0) (n' := R.size) (by omega) (fun i => by rw [hR]; exact nstep_tail s (a + 2) i) hE
  have hRe : R.extract e R.size = s.extract (a + 2 + e) s.size := by
    rw [hR, ByteArray.extract_extract, ByteArray.size_extract, show min (a + 2 + (min s.size s.size - (a + 2))) s.size = s.size by omega]
  have hYt := close_tail R e heR hE
  rw [hRe] at hYt
  obtain ⟨y, hy⟩ : ∃ y, Lib.index (s.extract (a + 2 + e) s.size).data.toList [63, 62] = y := ⟨_, rfl⟩
  have hge : -1 ≤ y := by rw [← hy]; exact Lib.index_ge _ _
  have hroom : 0 ≤ y → ((a + 2 + e : Nat) : Int) + y + 2 ≤ (s.size : Int) := fun h => by
    have := Lib.index_room (s.extract (a + 2 + e) s.size).data.toList [63, 62] (by rw [hy]; exact h)
    rw [hy, ← Lib.size_eq, ByteArray.size_extract] at this
    simp at this
    omega
  rw [hy] at hYt
  have hYy : (y = -1 ∧ Lib.index R.data.toList [63, 62] = -1) ∨ (0 ≤ y ∧ Lib.index R.data.toList [63, 62] = y + e) := by
    rw [hYt]
    by_cases h : y = -1
    · exact Or.inl ⟨h, by rw [h]; rfl⟩
    · exact Or.inr ⟨by omega, if_neg (by simpa using h)⟩
  have hex2 : ∃ e2, 0 ≤ y → Stops (cstep (s.extract (a + 2 + e) (a + 2 + e + y.toNat))) y.toNat 0 e2 ∧ e2 ≤ y.toNat := by
    by_cases h : 0 ≤ y
    · have hr := hroom h
      have hz : (s.extract (a + 2 + e) (a + 2 + e + y.toNat)).size = y.toNat := by rw [ByteArray.size_extract]; omega
      obtain ⟨e2, h2, _, h3⟩ := Stops.exists (g := cstep (s.extract (a + 2 + e) (a + 2 + e + y.toNat))) (n := y.toNat) (a := 0) (Nat.zero_le _) (fun i z hi hq => by
        have := cstep_fits (s.extract (a + 2 + e) (a + 2 + e + y.toNat)) i z (by omega) hq
        omega)
      exact ⟨e2, fun _ => ⟨h2, h3⟩⟩
    · exact ⟨0, fun h' => absurd h' h⟩
  obtain ⟨e2, hE2⟩ := hex2
  obtain ⟨o, ho⟩ : ∃ o, insOut (nmOK (s.extract (a + 2) (a + 2 + e)).data.toList) (xmlB (s.extract (a + 2) (a + 2 + e))) y (isSp (bt s (a + 2 + e))) (a + 2 + e) e2 = o := ⟨_, rfl⟩
  refine ⟨o.1, o.2, lnOf s o, zzInstructionAt_any s a (a + 2 + e) e2 y m w (by omega) ha hT hA hm hE1 (by omega) (by omega) hy hge hroom hE2 o ho, fun W => ?_⟩
  subst hR
  exact zzInstructionModel_any s a e e2 y _ W (by omega) ha hE (by omega) rfl hYy (fun h => by have := hroom h; omega) hE2 o ho

set_option maxRecDepth 8000 in
set_option maxHeartbeats 4000000 in
theorem law_is (s : ByteArray) (p : Int) (m : Int) (w : World) (hz : s.size ≤ 9223372036854775807) (hT : Lib.Utf8Tabs 0 1 w) (hA : Folds w) (hm : w.cell? ⟨5, 0, none⟩ = some (.int .i64 m)) :
    Calls Tryf.prog 4 #[.string s, .int .i64 p] w fun r w' => Below w.heap.size w w' ∧ r = .returned (.bool true) := by
  have cB : Hid (∀ W, Calls Tryf.prog 8 #[.string s, .int .i64 p] W fun r w' => r = .returned (.bool (decide (s.size ≤ 1048576))) ∧ w' = W) := fun W => zzBytes1_any s p W hz
  have hgb := get_bt s
  by_cases hs : s.size ≤ 1048576
  · rw [decide_eq_true hs] at cB
    have e1 : decide (1048576 < (s.size : Int)) = false := decide_eq_false (by omega)
    have e2 : ¬ 1048576 < s.size := by omega
    by_cases hp0 : p < 0
    · clear hT hA hm
      go_enter Tryf.func4, Tryf.ntmps4
      go_wp2_with (go_at_call 8; refine (cB.out _).mono ?_; rintro e w' ⟨rfl, rfl⟩)
      go_ret
      exact ⟨Below.refl _ _, rfl⟩
    · obtain ⟨a, rfl⟩ : ∃ a : Nat, p = (a : Int) := ⟨p.toNat, by omega⟩
      have hd0 : decide ((a : Int) < 0) = false := decide_eq_false (by omega)
      by_cases ha : a + 2 ≤ s.size
      · have hd1 : decide ((s.size : Int) - 2 < (a : Int)) = false := decide_eq_false (by omega)
        have hn1 : ¬ (s.size : Int) - 2 < (a : Int) := by omega
        have i0 : (a : Int) < (s.size : Int) := by omega
        have i0N : a < s.size := by omega
        have i1 : (a : Int) + 1 < (s.size : Int) := by omega
        have i1N : a + 1 < s.size := by omega
        cases hq0 : (bt s a != 60) with
        | true =>
          clear hT hA hm
          go_enter Tryf.func4, Tryf.ntmps4
          go_wp2_with (go_at_call 8; refine (cB.out _).mono ?_; rintro e w' ⟨rfl, rfl⟩)
          go_ret
          exact ⟨Below.refl _ _, rfl⟩
        | false =>
          cases hq1 : (bt s (a + 1) != 63) with
          | true =>
            clear hT hA hm
            go_enter Tryf.func4, Tryf.ntmps4
            go_wp2_with (go_at_call 8; refine (cB.out _).mono ?_; rintro e w' ⟨rfl, rfl⟩)
            go_ret
            exact ⟨Below.refl _ _, rfl⟩
          | false =>
            obtain ⟨P, B, L, h9, h10⟩ := both_any s a m w hs ha hT hA hm
            have H9 : Hid (Calls Tryf.prog 9 #[.string s, .int .i64 a] w fun r w' => Below w.heap.size w w' ∧ r = .returned (.tuple #[.int .i64 P, .bool B, .int .i64 L])) := h9
            have H10 : Hid (∀ W, Calls Tryf.prog 10 #[.string s, .int .i64 a] W fun r w' => (∃ n, w' = W.drewN n) ∧ r = .returned (.tuple #[.int .i64 P, .bool B, .int .i64 L])) := h10
            clear hT hA hm h9 h10
            go_enter Tryf.func4, Tryf.ntmps4
            go_wp2_with (go_at_call 8; refine (cB.out _).mono ?_; rintro e w' ⟨rfl, rfl⟩)
            refine H9.out.mono ?_
            rintro r w1 ⟨hB1, rfl⟩
            have HB1 : Hid (Below w'.heap.size w' w1) := hB1
            clear hB1
            go_wp2_with fail
            refine (H10.out _).mono ?_
            rintro r w2 ⟨⟨n, rfl⟩, rfl⟩
            go_wp2
            go_ret
            exact ⟨⟨HB1.out.os, HB1.out.tape, HB1.out.output, HB1.out.size, HB1.out.block⟩, rfl⟩
      · have hd1 : decide ((s.size : Int) - 2 < (a : Int)) = true := decide_eq_true (by omega)
        have hn1 : (s.size : Int) - 2 < (a : Int) := by omega
        clear hT hA hm
        go_enter Tryf.func4, Tryf.ntmps4
        go_wp2_with (go_at_call 8; refine (cB.out _).mono ?_; rintro e w' ⟨rfl, rfl⟩)
        go_ret
        exact ⟨Below.refl _ _, rfl⟩
  · rw [decide_eq_false hs] at cB
    clear hT hA hm
    go_enter Tryf.func4, Tryf.ntmps4
    go_wp2_with (go_at_call 8; refine (cB.out _).mono ?_; rintro e w' ⟨rfl, rfl⟩)
    go_ret
    exact ⟨Below.refl _ _, rfl⟩
end Go.Proofs.Qxb6606017aFmt
