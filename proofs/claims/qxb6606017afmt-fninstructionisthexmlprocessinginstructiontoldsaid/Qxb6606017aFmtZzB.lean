import Derived.Test.Qxb6606017aFmtRune
namespace Go.Proofs.Qxb6606017aFmt
open Go.RowKit Go.PlainAid

/-- Where the text is refused first; -1: nowhere. -/
def refAt (n e : Nat) : Int := if e < n then (e : Int) else -1
theorem drewN_drewN (w : World) (a b : Nat) : (w.drewN a).drewN b = w.drewN (a + b) := by simp [World.drewN]; omega

set_option maxRecDepth 8000 in
set_option maxHeartbeats 2000000 in
theorem zzFirstRefused_any (s : ByteArray) (e : Nat) (w : World) (hs : s.size ≤ 4194304) (hE : Stops (cstep s) s.size 0 e) :
    Calls Tryf.prog 15 #[.string s] w fun r w' => r = .returned (.int .i64 (refAt s.size e)) ∧ ∃ n, w' = w.drewN n := by
  have HE : Hid (Stops (cstep s) s.size 0 e) := hE
  clear hE
  go_enter Tryf.func15, Tryf.ntmps15
  go_wp2_with fail
  go_loopg [3] s.size (fun g iv wr => ∃ k m : Nat, g = s.size - k ∧ iv = .int .i64 k ∧ k ≤ s.size ∧ steps (cstep s) s.size 0 m = some k ∧ ∃ n, wr = w.drewN n)
  case atStart => exact ⟨0, 0, rfl, rfl, Nat.zero_le _, rfl, 0, rfl⟩
  case round =>
    obtain ⟨k, m, hg, rfl, hk, hst, n, rfl⟩ := hrel
    have HG : Hid (gk = s.size - k) := hg
    have HS : Hid (steps (cstep s) s.size 0 m = some k) := hst
    clear hg hst
    by_cases hlt : k < s.size
    · have h1 : (k : Int) < (s.size : Int) := by omega
      have hfit := dec_fits s k hlt
      have HC : Hid (cstep s k = if (dec s k).2.2 && xAny (dec s k).1 then some (dec s k).2.1 else none) := rfl
      go_wp2_with fail
      refine (zzDecodeRune_any s k _ hs hlt).mono ?_
      rintro r w1 ⟨rfl, n1, rfl⟩
      rw [drewN_drewN]
      unfold decV
      generalize dec s k = d at *
      obtain ⟨r, z, o⟩ := d
      dsimp only at *
      cases o with
      | false =>
        go_wp2_with fail
        go_ret
        refine ⟨ret_int ?_, _, rfl⟩
        have hn : cstep s k = none := by rw [HC.out]; rfl
        obtain rfl := Stops.unique HE.out ⟨⟨m, HS.out⟩, Or.inr hn⟩
        unfold refAt
        rw [if_pos hlt]
      | true =>
        cases hx : xAny r with
        | false =>
          have HX : Hid (xAny r = false) := hx
          go_wp2_with (go_at_call 25; refine (zzIsXMLChar_any _ _).mono ?_; rintro e w' ⟨rfl, rfl⟩)
          go_ret
          refine ⟨ret_int ?_, _, rfl⟩
          have hn : cstep s k = none := by rw [HC.out, HX.out]; rfl
          obtain rfl := Stops.unique HE.out ⟨⟨m, HS.out⟩, Or.inr hn⟩
          unfold refAt
          rw [if_pos hlt]
        | true =>
          have HX : Hid (xAny r = true) := hx
          have hzI : (k : Int) + (z : Int) ≤ (s.size : Int) := by omega
          go_wp2_with (go_at_call 25; refine (zzIsXMLChar_any _ _).mono ?_; rintro e w' ⟨rfl, rfl⟩)
          have hn : cstep s k = some z := by rw [HC.out, HX.out]; rfl
          go_roundg (s.size - (k + z))
          case measure => have := HG.out; omega
          case rel => exact ⟨k + z, m + 1, rfl, by go_num, by omega, steps_next HS.out hlt hn, _, rfl⟩
    · have h1 : ¬ (k : Int) < (s.size : Int) := by omega
      go_wp2
      go_ret
      refine ⟨ret_int ?_, _, rfl⟩
      obtain rfl := Stops.unique HE.out ⟨⟨m, HS.out⟩, Or.inl (by omega)⟩
      unfold refAt
      rw [if_neg hlt]

/-- A plain ASCII name. -/
def plainB (t : ByteArray) : Bool := decide (t.size ≠ 0) && (decide (97 ≤ bt t 0 ∧ bt t 0 ≤ 122) || decide (65 ≤ bt t 0 ∧ bt t 0 ≤ 90) || (bt t 0 == 95)) && (List.range t.size).all fun k => k == 0 || (!(bt t k == 58) && ascNm (bt t k))

set_option maxRecDepth 8000 in
set_option maxHeartbeats 2000000 in
theorem zzPlainASCIIName_any (t : ByteArray) (w : World) (hs : t.size ≤ 4194304) :
    Calls Tryf.prog 12 #[.string t] w fun r w' => r = .returned (.bool (plainB t)) ∧ w' = w := by
  have hgb := get_bt t
  by_cases h0 : t.size = 0
  · obtain rfl : t = ⟨#[]⟩ := by
      obtain ⟨⟨l⟩⟩ := t
      simp [ByteArray.size] at h0
      subst h0; rfl
    go_enter Tryf.func12, Tryf.ntmps12
    go_wp2
    go_ret
    exact ⟨rfl, rfl⟩
  · have hne : t.toList.isEmpty = false := by
      rw [Lib.toList_data]
      rw [List.isEmpty_eq_false_iff]
      intro h
      apply h0
      have := congrArg List.length h
      simpa using this
    have hI : (0 : Int) < (t.size : Int) := by omega
    have h00 : 0 < t.size := by omega
    by_cases hok : (97 ≤ bt t 0 ∧ bt t 0 ≤ 122) ∨ (65 ≤ bt t 0 ∧ bt t 0 ≤ 90) ∨ bt t 0 = 95
    · have HP : Hid (plainB t = (List.range t.size).all fun k => k == 0 || (!(bt t k == 58) && ascNm (bt t k))) := by
        show _ = _
        unfold plainB
        have e : (decide (97 ≤ bt t 0 ∧ bt t 0 ≤ 122) || decide (65 ≤ bt t 0 ∧ bt t 0 ≤ 90) || (bt t 0 == 95)) = true := by simpa [or_assoc] using hok
        rw [e]
        simp [h0]
      have hcase : (97 ≤ bt t 0 ∧ bt t 0 ≤ 122) ∨ (¬ 97 ≤ bt t 0 ∧ 65 ≤ bt t 0 ∧ bt t 0 ≤ 90) ∨ (¬ 97 ≤ bt t 0 ∧ 65 ≤ bt t 0 ∧ ¬ bt t 0 ≤ 90 ∧ (bt t 0 == 95) = true) := by
        simp; omega
      clear hok h0
      rcases hcase with ⟨a1, a2⟩ | ⟨a1, a2, a3⟩ | ⟨a1, a2, a3, a4⟩
      all_goals
        go_enter Tryf.func12, Tryf.ntmps12
        go_wp2_with fail
        go_loopg [4] (t.size - 1) (fun g iv wr => ∃ k : Nat, g = t.size - k ∧ iv = .int .i64 k ∧ 1 ≤ k ∧ k ≤ t.size ∧ (∀ j, j < k → (j == 0 || (!(bt t j == 58) && ascNm (bt t j))) = true) ∧ wr = w)
        case atStart =>
          refine ⟨1, rfl, rfl, Nat.le_refl _, h00, fun j hj => ?_, rfl⟩
          obtain rfl : j = 0 := by omega
          rfl
        case round =>
          obtain ⟨k, hg, rfl, hk0, hk, hall, rfl⟩ := hrel
          have HG : Hid (gk = t.size - k) := hg
          have HA : Hid (∀ j, j < k → (j == 0 || (!(bt t j == 58) && ascNm (bt t j))) = true) := hall
          clear hg hall
          by_cases hlt : k < t.size
          · have h1 : (k : Int) < (t.size : Int) := by omega
            have HI : Hid (inAlph (bt t k) = ascNm (bt t k)) := inAlph_eq _ (bt_nonneg t k) (bt_le t k)
            cases hq : (bt t k == 58) with
            | true =>
              have HQ : Hid ((bt t k == 58) = true) := hq
              go_wp2_with (go_at_call 23; refine (zzInNameAlphabet_any _ _).mono ?_; rintro e w' ⟨rfl, rfl⟩)
              go_ret
              refine ⟨ret_bool ?_, rfl⟩
              rw [HP.out]
              symm
              rw [List.all_eq_false]
              refine ⟨k, List.mem_range.2 hlt, ?_⟩
              rw [HQ.out]
              simp; omega
            | false =>
              have HQ : Hid ((bt t k == 58) = false) := hq
              cases hq2 : inAlph (bt t k) with
              | true =>
                have HQ2 : Hid (inAlph (bt t k) = true) := hq2
                go_wp2_with (go_at_call 23; refine (zzInNameAlphabet_any _ _).mono ?_; rintro e w' ⟨rfl, rfl⟩)
                go_roundg (t.size - (k + 1))
                case measure => have := HG.out; omega
                case rel => exact ⟨k + 1, rfl, by go_num, by omega, by omega, fun j hj => by
                  rcases Nat.lt_or_ge j k with h | h
                  · exact HA.out j h
                  · obtain rfl : j = k := by omega
                    rw [HQ.out, ← HI.out, HQ2.out]; simp, rfl⟩
              | false =>
                have HQ2 : Hid (inAlph (bt t k) = false) := hq2
                go_wp2_with (go_at_call 23; refine (zzInNameAlphabet_any _ _).mono ?_; rintro e w' ⟨rfl, rfl⟩)
                go_ret
                refine ⟨ret_bool ?_, rfl⟩
                rw [HP.out]
                symm
                rw [List.all_eq_false]
                refine ⟨k, List.mem_range.2 hlt, ?_⟩
                rw [HQ.out, ← HI.out, HQ2.out]
                simp; omega
          · have h1 : ¬ (k : Int) < (t.size : Int) := by omega
            go_wp2
            go_ret
            refine ⟨ret_bool ?_, rfl⟩
            rw [HP.out]
            symm
            rw [List.all_eq_true]
            exact fun j hj => HA.out j (by have := List.mem_range.1 hj; omega)
    · have HP : Hid (plainB t = false) := by
        show _ = _
        unfold plainB
        have e : (decide (97 ≤ bt t 0 ∧ bt t 0 ≤ 122) || decide (65 ≤ bt t 0 ∧ bt t 0 ≤ 90) || (bt t 0 == 95)) = false := by
          rw [Bool.eq_false_iff]; simpa [or_assoc] using hok
        rw [e]
        simp
      have hcase : (97 ≤ bt t 0 ∧ ¬ bt t 0 ≤ 122 ∧ 65 ≤ bt t 0 ∧ ¬ bt t 0 ≤ 90 ∧ (bt t 0 == 95) = false) ∨ (¬ 97 ≤ bt t 0 ∧ ¬ 65 ≤ bt t 0 ∧ (bt t 0 == 95) = false) ∨ (¬ 97 ≤ bt t 0 ∧ 65 ≤ bt t 0 ∧ ¬ bt t 0 ≤ 90 ∧ (bt t 0 == 95) = false) := by
        simp; omega
      clear hok h0
      rcases hcase with ⟨a1, a2, a3, a4, a5⟩ | ⟨a1, a2, a3⟩ | ⟨a1, a2, a3, a4⟩
      all_goals
        go_enter Tryf.func12, Tryf.ntmps12
        go_wp2_with fail
        go_ret
        exact ⟨ret_bool HP.out.symm, rfl⟩

set_option maxRecDepth 8000 in
set_option maxHeartbeats 2000000 in
theorem zzBytes4_any (a b c d : ByteArray) (w : World) :
    Calls Tryf.prog 11 #[.string a, .string b, .string c, .string d] w fun r w' => r = .returned (.bool (decide (a.size + b.size + c.size + d.size ≤ 1048576))) ∧ w' = w := by
  go_enter Tryf.func11, Tryf.ntmps11
  go_wp2_with fail
  all_goals
    go_ret
    refine ⟨ret_bool ?_, rfl⟩
    simp; try omega
end Go.Proofs.Qxb6606017aFmt
