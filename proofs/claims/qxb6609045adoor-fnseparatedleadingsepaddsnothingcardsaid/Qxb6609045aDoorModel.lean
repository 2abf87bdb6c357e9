import Derived.Test.Qxb6609045aDoorTrim
namespace Go.Proofs.Qxb6609045aDoor
open Go.RowKit Go.PlainAid
open Go.Lib

theorem below_drewN {B : Nat} {a w : World} (h : Below B a w) (n : Nat) : Below B a (w.drewN n) := ⟨h.os, h.tape, h.output, h.size, h.block⟩
theorem Strs.drewN {B : Nat} {v : Value} {xs : List ByteArray} {w : World} (h : Strs B v xs w) (n : Nat) : Strs B v xs (w.drewN n) := h.grown (below_drewN (Below.refl _ _) n)

/-- Where the model stands: its four variables at place i of the piece from p. -/
def At (s sep : ByteArray) (p i : Nat) (st en : Value) : Prop :=
  (st = .int .i64 (-1) ∧ en = .int .i64 (-1) ∧ Off s sep p i) ∨ ∃ a b : Nat, st = .int .i64 a ∧ en = .int .i64 b ∧ On s sep p i a b
theorem On.bounds {s sep : ByteArray} {p i a b : Nat} (h : On s sep p i a b) : a < b ∧ b ≤ i ∧ i ≤ s.size := ⟨h.2.2.1, h.2.2.2.2.1.le, h.1.fit⟩
theorem spB_le (s sep : ByteArray) (i : Nat) : spB s sep i ≤ 3 := by
  have := spW_le s i
  rcases spB_cases s sep i with h | ⟨h, _⟩ <;> omega

set_option maxRecDepth 8000 in
set_option maxHeartbeats 4000000 in
theorem model_any (s sep : ByteArray) (w : World) (hs : s.size ≤ 4194304) (hp : sep.size ≤ 4194304) (h1 : 1 ≤ sep.size) :
    Calls Tryd.prog 12 #[.string s, .string sep] w fun r w' => ∃ v, r = .returned v ∧ Strs w.heap.size v (items (splitB sep 0 (countB s sep) s)) w' ∧ Below w.heap.size w w' := by
  have he : sep.toList.isEmpty = false := by rw [isEmpty_of]; exact decide_eq_false (by omega)
  have H1 : Hid (1 ≤ sep.size) := h1
  have HR : Hid (rest s sep 0 = splitB sep 0 (countB s sep) s) := by
    show _ = _
    unfold rest
    rw [show s.extract 0 s.size = s from ByteArray.extract_zero_size]
  generalize splitB sep 0 (countB s sep) s = all at *
  go_enter Tryd.func12, Tryd.ntmps12
  go_wp2_with fail
  go_loopg [5, 6, 7, 8] s.size (fun g v st en iv wr => ∃ (p i : Nat) (ps : List ByteArray), g = s.size - i ∧ iv = .int .i64 i ∧ i ≤ s.size ∧ all = ps ++ rest s sep p ∧ ps.length ≤ i ∧ Strs w.heap.size v (items ps) wr ∧ Below w.heap.size w wr ∧ At s sep p i st en)
  case atStart => exact ⟨0, 0, [], rfl, rfl, Nat.zero_le _, by rw [HR.out]; rfl, Nat.le_refl _, strs_nil _ _, Below.refl _ _, Or.inl ⟨rfl, rfl, Off.zero (Nat.zero_le _)⟩⟩
  case round =>
    obtain ⟨p, i, ps, hg, rfl, hi, hall, hlen, hst, hbw, hat⟩ := hrel
    have HG : Hid (gk = s.size - i) := hg
    have HL : Hid (all = ps ++ rest s sep p) := hall
    have HS : Hid (Strs w.heap.size u5 (items ps) wr) := hst
    have HW : Hid (Below w.heap.size w wr) := hbw
    have HN : Hid ((items ps).length ≤ 4194304) := by show _ ≤ _; have := items_length ps; omega
    have HK : Hid (ps.length ≤ i) := hlen
    clear hg hall hst hbw hlen
    by_cases hlt : i < s.size
    · have hltI : (i : Int) < (s.size : Int) := by omega
      have HH : Hid (Calls Tryd.prog 21 #[.string s, .int .i64 i, .string sep] wr fun r w' => r = .returned (.bool (hasB s sep i)) ∧ ∃ n, w' = wr.drewN n) := hasAt_any s sep i wr hs hp hi
      cases hq : hasB s sep i with
      | true =>
        have hroom : i + sep.size ≤ s.size := by unfold hasB at hq; exact (of_decide_eq_true hq).1
        have HQ : Hid (hasB s sep i = true) := hq
        rw [hq] at HH
        clear hq
        rcases hat with ⟨rfl, rfl, hoff⟩ | ⟨a, b, rfl, rfl, hon⟩
        · as_aux_lemma =>
            have HO : Hid (Off s sep p i) := hoff
            clear hoff
            go_wp2_with (go_at_call 21; refine HH.out.mono ?_; rintro e w' ⟨rfl, n, rfl⟩)
            go_roundg (s.size - (i + sep.size))
            case measure => have := HG.out; have := H1.out; omega
            case rel => exact ⟨i + sep.size, i + sep.size, ps ++ [s.extract p i], rfl, by go_num, hroom, by rw [HL.out, rest_cut H1.out HO.out.1 HQ.out]; simp, by have := HK.out; have := H1.out; simp; omega, by rw [items_off ps HO.out]; exact HS.out.drewN n, below_drewN HW.out n, Or.inl ⟨rfl, rfl, Off.zero hroom⟩⟩
        · as_aux_lemma =>
            obtain ⟨b1, b2, b3⟩ := hon.bounds
            have b1I : (a : Int) ≤ (b : Int) := by omega
            have b1N : a ≤ b := by omega
            have b2I : (b : Int) ≤ (s.size : Int) := by omega
            have b2N : b ≤ s.size := by omega
            have hda : decide ((0 : Int) ≤ (a : Int)) = true := by simp
            have HO : Hid (On s sep p i a b) := hon
            clear hon
            have HPush : Hid (∀ n, ∃ v' w2, Hid ((Builtin.append_ #[23, 23] 23 #[u5, .slice (some ⟨wr.heap.size, 0, none⟩) 1 1]).run Tryd.prog ((wr.drewN n).alloc (.cells #[.string (s.extract a b)] 9)) = .ok v' w2) ∧ Hid (Strs w.heap.size v' (items ps ++ [s.extract a b]) w2) ∧ Hid (Below w.heap.size (wr.drewN n) w2)) := fun n => by
              obtain ⟨v', w2, hrun, hS2, hb2, _⟩ := strs_push (s.extract a b) (HS.out.drewN n) (below_drewN HW.out n).size HN.out
              exact ⟨v', w2, hrun, hS2, hb2⟩
            go_wp2_with (first | (go_at_call 21; refine HH.out.mono ?_; rintro e w' ⟨rfl, n, rfl⟩) | (at_builtin; obtain ⟨v', w2, HRun, HS2, HB2⟩ := HPush.out n; refine wpList_append_run (by rfl) _ _ _ _ (by rfl) _ _ _ _ (by rfl) (by rfl) HRun.out ?_))
            go_roundg (s.size - (i + sep.size))
            case measure => have := HG.out; have := H1.out; omega
            case rel => exact ⟨i + sep.size, i + sep.size, ps ++ [s.extract p i], rfl, by go_num, hroom, by rw [HL.out, rest_cut H1.out HO.out.1 HQ.out]; simp, by have := HK.out; have := H1.out; simp; omega, by rw [items_on ps HO.out]; exact HS2.out, (below_drewN HW.out n).trans HB2.out, Or.inl ⟨rfl, rfl, Off.zero hroom⟩⟩
      | false =>
        have HQ : Hid (hasB s sep i = false) := hq
        rw [hq] at HH
        clear hq
        have HX : Hid (∀ W, Calls Tryd.prog 22 #[.string s, .int .i64 i, .string sep] W fun r w' => r = .returned (.int .i64 (spB s sep i)) ∧ ∃ n, w' = W.drewN n) := fun W => spaceWidth_any s sep i W hs hp hlt
        have hle := spB_le s sep i
        by_cases hz : 0 < spB s sep i
        · as_aux_lemma =>
            have hdz : decide (0 < ((spB s sep i : Nat) : Int)) = true := by simp; omega
            have hdz' : decide (0 < spB s sep i) = true := by simp; omega
            have hfit : i + spB s sep i ≤ s.size := by
              rcases hat with ⟨_, _, hoff⟩ | ⟨a, b, _, _, hon⟩
              · exact (hoff.1.blank hlt HQ.out hz).fit
              · exact (hon.1.blank hlt HQ.out hz).fit
            have HA : Hid (At s sep p (i + spB s sep i) u6 u7) := by
              rcases hat with ⟨e1, e2, hoff⟩ | ⟨a, b, e1, e2, hon⟩
              · exact Or.inl ⟨e1, e2, hoff.blank hlt HQ.out hz⟩
              · exact Or.inr ⟨a, b, e1, e2, hon.blank hlt HQ.out hz⟩
            have HZ : Hid (0 < spB s sep i) := hz
            clear hat hz
            go_wp2_with (first | (go_at_call 21; refine HH.out.mono ?_; rintro e w' ⟨rfl, n, rfl⟩) | (go_at_call 22; refine (HX.out _).mono ?_; rintro e w' ⟨rfl, m, rfl⟩))
            go_roundg (s.size - (i + spB s sep i))
            case measure => have := HG.out; have := HZ.out; omega
            case rel => exact ⟨p, i + spB s sep i, ps, rfl, by go_num, hfit, HL.out, by have := HK.out; omega, HS.out.drewN (n + m), below_drewN HW.out (n + m), HA.out⟩
        · have hz0 : spB s sep i = 0 := by omega
          have HZ : Hid (spB s sep i = 0) := hz0
          rw [hz0] at HX
          clear hz hz0 hle
          rcases hat with ⟨rfl, rfl, hoff⟩ | ⟨a, b, rfl, rfl, hon⟩
          · as_aux_lemma =>
              have HO : Hid (Off s sep p i) := hoff
              clear hoff
              go_wp2_with (first | (go_at_call 21; refine HH.out.mono ?_; rintro e w' ⟨rfl, n, rfl⟩) | (go_at_call 22; refine (HX.out _).mono ?_; rintro e w' ⟨rfl, m, rfl⟩))
              go_roundg (s.size - (i + 1))
              case measure => have := HG.out; omega
              case rel => exact ⟨p, i + 1, ps, rfl, by go_num, by omega, HL.out, by have := HK.out; omega, HS.out.drewN (n + m), below_drewN HW.out (n + m), Or.inr ⟨i, i + 1, rfl, by go_num, HO.out.step hlt HQ.out HZ.out⟩⟩
          · as_aux_lemma =>
              have HO : Hid (On s sep p i a b) := hon
              have hda : decide ((a : Int) < 0) = false := decide_eq_false (by omega)
              clear hon
              go_wp2_with (first | (go_at_call 21; refine HH.out.mono ?_; rintro e w' ⟨rfl, n, rfl⟩) | (go_at_call 22; refine (HX.out _).mono ?_; rintro e w' ⟨rfl, m, rfl⟩))
              go_roundg (s.size - (i + 1))
              case measure => have := HG.out; omega
              case rel => exact ⟨p, i + 1, ps, rfl, by go_num, by omega, HL.out, by have := HK.out; omega, HS.out.drewN (n + m), below_drewN HW.out (n + m), Or.inr ⟨a, i + 1, rfl, by go_num, HO.out.step hlt HQ.out HZ.out⟩⟩
    · have hlt' : ¬ (i : Int) < (s.size : Int) := by omega
      obtain rfl : i = s.size := by omega
      rcases hat with ⟨rfl, rfl, hoff⟩ | ⟨a, b, rfl, rfl, hon⟩
      · as_aux_lemma =>
          have HO : Hid (Off s sep p s.size) := hoff
          clear hoff
          go_wp2
          go_ret
          refine ⟨_, rfl, ?_, HW.out⟩
          rw [HL.out, rest_end H1.out HO.out.1, items_off ps HO.out]
          exact HS.out
      · as_aux_lemma =>
          obtain ⟨b1, b2, b3⟩ := hon.bounds
          have b1I : (a : Int) ≤ (b : Int) := by omega
          have b1N : a ≤ b := by omega
          have b2I : (b : Int) ≤ (s.size : Int) := by omega
          have b2N : b ≤ s.size := by omega
          have hda : decide ((0 : Int) ≤ (a : Int)) = true := by simp
          have HO : Hid (On s sep p s.size a b) := hon
          clear hon
          obtain ⟨v', w2, hrun, hS2, hb2, _⟩ := strs_push (s.extract a b) HS.out HW.out.size HN.out
          have HRun : Hid ((Builtin.append_ #[23, 23] 23 #[u5, .slice (some ⟨wr.heap.size, 0, none⟩) 1 1]).run Tryd.prog (wr.alloc (.cells #[.string (s.extract a b)] 9)) = .ok v' w2) := hrun
          have HS2 : Hid (Strs w.heap.size v' (items ps ++ [s.extract a b]) w2) := hS2
          have HB2 : Hid (Below w.heap.size wr w2) := hb2
          clear hrun hS2 hb2
          go_wp2_with (at_builtin; refine wpList_append_run (by rfl) _ _ _ _ (by rfl) _ _ _ _ (by rfl) (by rfl) HRun.out ?_)
          go_ret
          refine ⟨_, rfl, ?_, HW.out.trans HB2.out⟩
          rw [HL.out, rest_end H1.out HO.out.1, items_on ps HO.out]
          exact HS2.out
end Go.Proofs.Qxb6609045aDoor
