import Derived.Test.Qxb6606017aFmtZzB
import Derived.Test.Qxb6606017aFmtChain
namespace Go.Proofs.Qxb6606017aFmt
open Go.RowKit Go.PlainAid

set_option maxRecDepth 8000 in
set_option maxHeartbeats 2000000 in
theorem zzNameRun_any (s : ByteArray) (e : Nat) (w : World) (hs : s.size ≤ 4194304) (hE : Stops (nstep s 0) s.size 0 e) :
    Calls Tryf.prog 20 #[.string s] w fun r w' => r = .returned (.int .i64 e) ∧ ∃ n, w' = w.drewN n := by
  have HE : Hid (Stops (nstep s 0) s.size 0 e) := hE
  clear hE
  go_enter Tryf.func20, Tryf.ntmps20
  go_wp2_with fail
  go_loopg [3] s.size (fun g iv wr => ∃ k m : Nat, g = s.size - k ∧ iv = .int .i64 k ∧ k ≤ s.size ∧ steps (nstep s 0) s.size 0 m = some k ∧ ∃ n, wr = w.drewN n)
  case atStart => exact ⟨0, 0, rfl, rfl, Nat.zero_le _, rfl, 0, rfl⟩
  case round =>
    obtain ⟨k, m, hg, rfl, hk, hst, n, rfl⟩ := hrel
    have HG : Hid (gk = s.size - k) := hg
    have HS : Hid (steps (nstep s 0) s.size 0 m = some k) := hst
    clear hg hst
    by_cases hlt : k < s.size
    · have h1 : (k : Int) < (s.size : Int) := by omega
      have hfit := dec_fits s k hlt
      have HC : Hid (nstep s 0 k = if (dec s k).2.2 && (if k = 0 then xStart (dec s k).1 else xChar (dec s k).1) then some (dec s k).2.1 else none) := rfl
      go_wp2_with fail
      refine (zzDecodeRune_any s k _ hs hlt).mono ?_
      rintro r w1 ⟨rfl, n1, rfl⟩
      rw [drewN_drewN]
      unfold decV
      generalize dec s k = d at *
      obtain ⟨r, z, o⟩ := d
      dsimp only at *
      cases o with
      | false =>
        go_wp2_with fail
        go_ret
        have hn : nstep s 0 k = none := by rw [HC.out]; rfl
        exact ⟨ret_int (by rw [Stops.unique HE.out ⟨⟨m, HS.out⟩, Or.inr hn⟩]), _, rfl⟩
      | true =>
        have hzI : (k : Int) + (z : Int) ≤ (s.size : Int) := by omega
        have HF : Hid (1 ≤ z ∧ k + z ≤ s.size) := hfit
        clear hfit
        by_cases h0 : k = 0
        · have h0B : ((k : Int) == 0) = true := by simp; omega
          cases hx : xStart r with
          | false =>
            go_wp2_with (go_at_call 36; refine (zzXMLNameStartChar_any _ _).mono ?_; rintro e w' ⟨rfl, rfl⟩)
            go_ret
            have hn : nstep s 0 k = none := by rw [HC.out, if_pos h0, hx]; rfl
            exact ⟨ret_int (by rw [Stops.unique HE.out ⟨⟨m, HS.out⟩, Or.inr hn⟩, h0]; rfl), _, rfl⟩
          | true =>
            go_wp2_with (go_at_call 36; refine (zzXMLNameStartChar_any _ _).mono ?_; rintro e w' ⟨rfl, rfl⟩)
            have hn : nstep s 0 k = some z := by rw [HC.out, if_pos h0, hx]; rfl
            go_roundg (s.size - (k + z))
            case measure => have := HG.out; have := HF.out; omega
            case rel => exact ⟨k + z, m + 1, rfl, by go_num, HF.out.2, steps_next HS.out hlt hn, _, rfl⟩
        · have h0B : ((k : Int) == 0) = false := by simp; omega
          cases hx : xChar r with
          | false =>
            go_wp2_with (go_at_call 37; refine (zzXMLNameChar_any _ _).mono ?_; rintro e w' ⟨rfl, rfl⟩)
            go_ret
            have hn : nstep s 0 k = none := by rw [HC.out, if_neg h0, hx]; rfl
            exact ⟨ret_int (by rw [Stops.unique HE.out ⟨⟨m, HS.out⟩, Or.inr hn⟩]), _, rfl⟩
          | true =>
            go_wp2_with (go_at_call 37; refine (zzXMLNameChar_any _ _).mono ?_; rintro e w' ⟨rfl, rfl⟩)
            have hn : nstep s 0 k = some z := by rw [HC.out, if_neg h0, hx]; rfl
            go_roundg (s.size - (k + z))
            case measure => have := HG.out; have := HF.out; omega
            case rel => exact ⟨k + z, m + 1, rfl, by go_num, HF.out.2, steps_next HS.out hlt hn, _, rfl⟩
    · have h1 : ¬ (k : Int) < (s.size : Int) := by omega
      go_wp2
      go_ret
      exact ⟨ret_int (by rw [Stops.unique HE.out ⟨⟨m, HS.out⟩, Or.inl (by omega)⟩]), _, rfl⟩

/-! ### a name's shape, by places -/
theorem occ_one (l : List UInt8) (a : UInt8) (k : Nat) : Lib.occAt l [a] k = (l[k]? == some a) := by
  unfold Lib.occAt
  rw [show l[k]? = (l.drop k)[0]? by rw [List.getElem?_drop]; rfl]
  cases l.drop k with
  | nil => rfl
  | cons x r =>
    show (a == x && List.isPrefixOf [] r) = (some x == some a)
    rw [show List.isPrefixOf ([] : List UInt8) r = true from rfl, Bool.and_true, Bool.eq_iff_iff]
    constructor
    · intro h; rw [beq_iff_eq] at h ⊢; rw [h]
    · intro h; rw [beq_iff_eq] at h ⊢; exact (Option.some.inj h).symm
theorem colon_iff (X : ByteArray) (k : Nat) : bt X k = 58 ↔ X.data.toList[k]? = some 58 := by
  have := bt_opt X k 58 (by decide)
  rw [Bool.eq_iff_iff] at this
  simpa using this
theorem cut_no (X : ByteArray) (h : ∀ k, k < X.size → bt X k ≠ 58) : Lib.index X.data.toList [58] = -1 := by
  refine Lib.index_none fun j _ => ?_
  rw [occ_one, Bool.eq_false_iff]
  intro hj
  have h58 : bt X j = 58 := (colon_iff X j).2 (by simpa using hj)
  exact h j (bt_lt_of_ne X (by omega)) h58
theorem cut_at (X : ByteArray) (j : Nat) (hj : bt X j = 58) (h : ∀ k, k < j → bt X k ≠ 58) : Lib.index X.data.toList [58] = j := by
  have hlt := bt_lt_of_ne X (k := j) (by omega)
  refine Lib.index_hit (fun k hk => ?_) (by rw [← Lib.size_eq]; omega) ?_
  · rw [occ_one, Bool.eq_false_iff]
    intro hq
    exact h k hk ((colon_iff X k).2 (by simpa using hq))
  · rw [occ_one]
    simpa using (colon_iff X j).1 hj
theorem shape_no (X : ByteArray) (h0 : X.size ≠ 0) (h : ∀ k, k < X.size → bt X k ≠ 58) : nmOK X.data.toList = true := by
  unfold nmOK Lib.cut
  rw [cut_no X h]
  have : X.data.toList ≠ [] := fun e => h0 (by rw [Lib.size_eq, e]; rfl)
  simpa using this
theorem shape_two (X : ByteArray) (i j : Nat) (hi : bt X i = 58) (hj : bt X j = 58) (hij : i < j) (h : ∀ k, k < i → bt X k ≠ 58) : nmOK X.data.toList = false := by
  have hd : 0 ≤ Lib.indexByte (X.data.toList.drop (i + 1)) 58 := by
    rcases Int.lt_or_le (Lib.indexByte (X.data.toList.drop (i + 1)) 58) 0 with hn | hn
    · exfalso
      have := Lib.indexByte_ge (X.data.toList.drop (i + 1)) 58
      have h1 := Lib.indexByte_none (l := X.data.toList.drop (i + 1)) (c := 58) (by omega) (j - (i + 1))
      rw [List.getElem?_drop, show i + 1 + (j - (i + 1)) = j by omega] at h1
      exact h1 ((colon_iff X j).1 hj)
    · exact hn
  unfold nmOK Lib.cut
  rw [cut_at X i hi h, if_pos (by omega)]
  simp [hd]
theorem shape_one (X : ByteArray) (j : Nat) (hj : bt X j = 58) (h : ∀ k, k < X.size → k ≠ j → bt X k ≠ 58) : nmOK X.data.toList = decide (0 < j ∧ j + 1 < X.size) := by
  have hlt := bt_lt_of_ne X (k := j) (by omega)
  have hd : ¬ 0 ≤ Lib.indexByte (X.data.toList.drop (j + 1)) 58 := by
    intro hn
    obtain ⟨h1, _⟩ := Lib.indexByte_some (l := X.data.toList.drop (j + 1)) (c := 58) (o := (Lib.indexByte (X.data.toList.drop (j + 1)) 58).toNat) (by omega)
    rw [List.getElem?_drop] at h1
    have h2 := (colon_iff X _).2 h1
    exact h _ (bt_lt_of_ne X (by omega)) (by omega) h2
  have hlen : X.data.toList.length = X.size := (Lib.size_eq X).symm
  unfold nmOK Lib.cut
  rw [cut_at X j hj (fun k hk => h k (by omega) (by omega)), if_pos (by omega)]
  have hne : X.data.toList.isEmpty = false := by
    cases hX : X.data.toList with
    | nil => rw [hX] at hlen; simp at hlen; omega
    | cons _ _ => rfl
  have e1 : (X.data.toList.take j).isEmpty = decide (j = 0) := by
    cases j with
    | zero => simp
    | succ j => cases hX : X.data.toList with
      | nil => rw [hX] at hne; cases hne
      | cons _ _ => simp
  have e2 : (X.data.toList.drop (j + 1)).isEmpty = decide (X.size ≤ j + 1) := by
    rw [Bool.eq_iff_iff, List.isEmpty_iff, List.drop_eq_nil_iff, hlen]; simp
  have e3 : decide (0 ≤ Lib.indexByte (X.data.toList.drop (j + 1)) 58) = false := decide_eq_false hd
  simp only [Int.toNat_natCast, List.length_cons, List.length_nil, Nat.zero_add, hne, e1, e2, e3]
  rw [Bool.eq_iff_iff]
  simp
  omega

set_option maxRecDepth 8000 in
set_option maxHeartbeats 2000000 in
theorem zzNameShapeOK_any (t : ByteArray) (w : World) (hs : t.size ≤ 4194304) :
    Calls Tryf.prog 21 #[.string t] w fun r w' => r = .returned (.bool (nmOK t.data.toList)) ∧ w' = w := by
  have hgb := get_bt t
  by_cases h0 : t.size = 0
  · have he : t.toList.isEmpty = true := by rw [Lib.toList_data, List.isEmpty_iff, ← List.length_eq_zero_iff, ← Lib.size_eq]; exact h0
    go_enter Tryf.func21, Tryf.ntmps21
    go_wp2
    go_ret
    exact ⟨ret_bool (nmOK_empty t he).symm, rfl⟩
  · have he : t.toList.isEmpty = false := by
      rw [Bool.eq_false_iff]
      intro h
      rw [Lib.toList_data, List.isEmpty_iff, ← List.length_eq_zero_iff, ← Lib.size_eq] at h
      exact h0 h
    go_enter Tryf.func21, Tryf.ntmps21
    go_wp2_with fail
    go_loopg [3, 4] t.size (fun g cv iv wr => ∃ k : Nat, g = t.size - k ∧ iv = .int .i64 k ∧ k ≤ t.size ∧ wr = w ∧
      ((cv = .int .i64 (-1) ∧ ∀ j, j < k → bt t j ≠ 58) ∨ ∃ c : Nat, cv = .int .i64 c ∧ c < k ∧ bt t c = 58 ∧ ∀ j, j < k → j ≠ c → bt t j ≠ 58))
    case atStart => exact ⟨0, rfl, rfl, Nat.zero_le _, rfl, Or.inl ⟨rfl, fun j hj => by omega⟩⟩
    case round =>
      obtain ⟨k, hg, rfl, hk, rfl, hc⟩ := hrel
      have HG : Hid (gk = t.size - k) := hg
      clear hg
      by_cases hlt : k < t.size
      · have h1 : (k : Int) < (t.size : Int) := by omega
        cases hq : (bt t k == 58) with
        | false =>
          have HC : Hid ((u3 = .int .i64 (-1) ∧ ∀ j, j < k → bt t j ≠ 58) ∨ ∃ c : Nat, u3 = .int .i64 c ∧ c < k ∧ bt t c = 58 ∧ ∀ j, j < k → j ≠ c → bt t j ≠ 58) := hc
          clear hc
          go_wp2_with fail
          have hq' : bt t k ≠ 58 := by simpa using hq
          go_roundg (t.size - (k + 1))
          case measure => have := HG.out; omega
          case rel =>
            refine ⟨k + 1, rfl, by go_num, by omega, rfl, ?_⟩
            rcases HC.out with ⟨e1, e2⟩ | ⟨c, e1, e2, e3, e4⟩
            · refine Or.inl ⟨e1, fun j hj => ?_⟩
              rcases Nat.lt_or_ge j k with h | h
              · exact e2 j h
              · obtain rfl : j = k := by omega
                exact hq'
            · refine Or.inr ⟨c, e1, by omega, e3, fun j hj hne => ?_⟩
              rcases Nat.lt_or_ge j k with h | h
              · exact e4 j h hne
              · obtain rfl : j = k := by omega
                exact hq'
        | true =>
          have hq' : bt t k = 58 := by simpa using hq
          have HQ : Hid (bt t k = 58) := hq'
          clear hq'
          rcases hc with ⟨rfl, e2⟩ | ⟨c, rfl, e2, e3, e4⟩
          · have HC : Hid (∀ j, j < k → bt t j ≠ 58) := e2
            clear e2
            go_wp2_with fail
            go_roundg (t.size - (k + 1))
            case measure => have := HG.out; omega
            case rel =>
              refine ⟨k + 1, rfl, by go_num, by omega, rfl, Or.inr ⟨k, rfl, by omega, HQ.out, fun j hj hne => HC.out j (by omega)⟩⟩
          · have HC : Hid (bt t c = 58 ∧ ∀ j, j < k → j ≠ c → bt t j ≠ 58) := ⟨e3, e4⟩
            have hdc : decide ((0 : Int) ≤ (c : Int)) = true := by simp
            clear e3 e4
            go_wp2_with fail
            go_ret
            exact ⟨ret_bool (shape_two t c k HC.out.1 HQ.out e2 (fun j hj => HC.out.2 j (by omega) (by omega))).symm, rfl⟩
      · have h1 : ¬ (k : Int) < (t.size : Int) := by omega
        obtain rfl : k = t.size := by omega
        rcases hc with ⟨rfl, e2⟩ | ⟨c, rfl, e2, e3, e4⟩
        · have HC : Hid (∀ j, j < t.size → bt t j ≠ 58) := e2
          clear e2
          go_wp2
          go_ret
          exact ⟨ret_bool (shape_no t h0 HC.out).symm, rfl⟩
        · have HC : Hid (bt t c = 58 ∧ ∀ j, j < t.size → j ≠ c → bt t j ≠ 58) := ⟨e3, e4⟩
          have hdc : decide ((c : Int) < 0) = false := by simp
          have hsh := shape_one t c e3 e4
          clear e3 e4
          by_cases hc0 : 0 < c
          · have hd1 : decide ((0 : Int) < (c : Int)) = true := by simp; omega
            have hd2 : decide (0 < c) = true := by simp; omega
            have HSH : Hid (nmOK t.data.toList = decide (0 < c ∧ c + 1 < t.size)) := hsh
            clear hsh
            go_wp2
            all_goals
              go_ret
              refine ⟨ret_bool ?_, rfl⟩
              rw [HSH.out, Bool.eq_iff_iff]
              simp
              omega
          · have hd1 : decide ((0 : Int) < (c : Int)) = false := by simp; omega
            have hd2 : decide (0 < c) = false := by simp; omega
            have HSH : Hid (nmOK t.data.toList = decide (0 < c ∧ c + 1 < t.size)) := hsh
            clear hsh
            go_wp2
            all_goals
              go_ret
              refine ⟨ret_bool ?_, rfl⟩
              rw [HSH.out, Bool.eq_iff_iff]
              simp
              omega
end Go.Proofs.Qxb6606017aFmt
