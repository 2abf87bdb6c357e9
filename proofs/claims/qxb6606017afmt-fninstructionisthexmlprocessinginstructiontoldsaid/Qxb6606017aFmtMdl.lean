import Derived.Test.Qxb6606017aFmtRun
import Derived.Test.Qxb6606017aFmtTwoPlain
namespace Go.Proofs.Qxb6606017aFmt
open Go.RowKit Go.PlainAid

/-! ### the text behind a place -/
theorem dec_of {x y : ByteArray} {i j : Nat} (h : ∀ k, bt x (i + k) = bt y (j + k)) : dec x i = dec y j := by
  have h0 : bt x i = bt y j := h 0
  unfold dec
  rw [h0, h 1, h 2, h 3]
theorem bt_tail (s : ByteArray) (b k : Nat) : bt (s.extract b s.size) k = bt s (b + k) := by
  rw [bt_extract s b s.size k (Nat.le_refl _)]
  split
  · rfl
  · rw [bt_end s (by omega)]
theorem nstep_tail (s : ByteArray) (b i : Nat) : nstep s b (b + i) = nstep (s.extract b s.size) 0 i := by
  have hd : dec s (b + i) = dec (s.extract b s.size) i := dec_of fun k => by rw [bt_tail, Nat.add_assoc]
  unfold nstep
  rw [hd]
  by_cases h : i = 0
  · rw [if_pos (show b + i = b by omega), if_pos h]
  · rw [if_neg (show ¬ b + i = b by omega), if_neg h]
theorem steps_tail {g g' : Nat → Option Nat} {n n' b : Nat} (hn : n = b + n') (hg : ∀ i, g (b + i) = g' i) : ∀ m, steps g n b m = (steps g' n' 0 m).map (b + ·)
  | 0 => rfl
  | m + 1 => by
    unfold steps
    rw [steps_tail hn hg m]
    cases h : steps g' n' 0 m with
    | none => rfl
    | some i =>
      simp only [Option.map_some]
      by_cases hi : i < n'
      · rw [if_pos (by omega), if_pos hi, hg]
        cases g' i with
        | none => rfl
        | some z => simp only [Option.map_some, Nat.add_assoc]
      · rw [if_neg (by omega), if_neg hi]; rfl
theorem stops_tail {g g' : Nat → Option Nat} {n n' b e : Nat} (hn : n = b + n') (hg : ∀ i, g (b + i) = g' i) (h : Stops g' n' 0 e) : Stops g n b (b + e) := by
  obtain ⟨⟨m, hm⟩, hs⟩ := h
  refine ⟨⟨m, by rw [steps_tail hn hg, hm]; rfl⟩, ?_⟩
  rcases hs with hs | hs
  · exact Or.inl (by omega)
  · exact Or.inr (by rw [hg, hs])

/-! ### no question mark in a name -/
theorem dec_bytes (s : ByteArray) (i : Nat) (h : ¬ bt s i < 128) (ho : (dec s i).2.2 = true) : ∀ k, k < (dec s i).2.1 → 128 ≤ bt s (i + k) := by
  intro k hk
  have h0 : bt s (i + 0) = bt s i := rfl
  unfold dec at ho hk
  rw [if_neg h] at ho hk
  split at ho
  · rename_i c
    rw [if_pos c] at hk
    split at ho
    · rename_i d
      rw [if_pos d] at hk
      rcases (show k = 0 ∨ k = 1 by simp at hk; omega) with rfl | rfl <;> omega
    · cases ho
  rename_i c
  rw [if_neg c] at hk
  split at ho
  · rename_i c
    rw [if_pos c] at hk
    split at ho
    · rename_i d
      rw [if_pos d] at hk
      rcases (show k = 0 ∨ k = 1 ∨ k = 2 by simp at hk; omega) with rfl | rfl | rfl <;> omega
    · cases ho
  rename_i c
  rw [if_neg c] at hk
  split at ho
  · rename_i c
    rw [if_pos c] at hk
    split at ho
    · rename_i d
      rw [if_pos d] at hk
      rcases (show k = 0 ∨ k = 1 ∨ k = 2 ∨ k = 3 by simp at hk; omega) with rfl | rfl | rfl | rfl <;> omega
    · cases ho
  · cases ho
theorem nstep_no63 (s : ByteArray) (a i z : Nat) (hz : nstep s a i = some z) (k : Nat) (hk : k < z) : bt s (i + k) ≠ 63 := by
  unfold nstep at hz
  obtain ⟨hb, rfl⟩ := if_some hz
  rw [Bool.and_eq_true] at hb
  by_cases h : bt s i < 128
  · rw [dec_asc s i h] at hb hk
    obtain rfl : k = 0 := by simpa using hk
    intro h63
    have h63' : bt s i = 63 := h63
    have := hb.2
    simp only [h63'] at this
    split at this <;> exact absurd this (by decide)
  · have := dec_bytes s i h hb.1 k hk
    omega
theorem steps_no63 (s : ByteArray) (a : Nat) : ∀ (m i : Nat), steps (nstep s a) s.size a m = some i → ∀ j, a ≤ j → j < i → bt s j ≠ 63
  | 0, i, h, j, h1, h2 => by
    have : a = i := Option.some.inj h
    omega
  | m + 1, i, h, j, h1, h2 => by
    unfold steps at h
    cases hm : steps (nstep s a) s.size a m with
    | none => rw [hm] at h; cases h
    | some i0 =>
      rw [hm] at h
      simp only at h
      split at h
      · rename_i hi
        obtain ⟨z, hz, rfl⟩ := Option.map_eq_some_iff.1 h
        rcases Nat.lt_or_ge j i0 with hj | hj
        · exact steps_no63 s a m i0 hm j h1 hj
        · have := nstep_no63 s a i0 z hz (j - i0) (by omega)
          rwa [show i0 + (j - i0) = j by omega] at this
      · cases h

/-- Where the first ?> stands: seen from the target's start, and from its end. -/
theorem close_tail (R : ByteArray) (e : Nat) (he : e ≤ R.size) (hE : Stops (nstep R 0) R.size 0 e) :
    Lib.index R.data.toList [63, 62] = if Lib.index (R.extract e R.size).data.toList [63, 62] == -1 then -1 else Lib.index (R.extract e R.size).data.toList [63, 62] + e := by
  obtain ⟨⟨m, hm⟩, _⟩ := hE
  rw [Lib.extract_to_end]
  refine Lib.index_drop (fun j hj => ?_) (by rw [← Lib.size_eq]; exact he)
  have := steps_no63 R 0 m e hm j (Nat.zero_le _) hj
  rw [occ_close, Bool.and_eq_false_iff]
  exact Or.inl (by simpa using this)

theorem tup_no {o : Nat × Bool} {s : ByteArray} {p : Int} {k : Nat} (ho : o = (k, false)) (hp : p = (k : Int)) : Ending.returned (.tuple #[.int .i64 p, .bool false, .int .i64 (lineAt s k)]) = .returned (.tuple #[.int .i64 o.1, .bool o.2, .int .i64 (lnOf s o)]) := by
  subst ho hp; rfl
theorem tup_yes {o : Nat × Bool} {s : ByteArray} {p : Int} {k : Nat} (ho : o = (k, true)) (hp : p = (k : Int)) : Ending.returned (.tuple #[.int .i64 p, .bool true, .int .i64 0]) = .returned (.tuple #[.int .i64 o.1, .bool o.2, .int .i64 (lnOf s o)]) := by
  subst ho hp; rfl

set_option maxRecDepth 8000 in
set_option maxHeartbeats 4000000 in
theorem zzInstructionModel_any (s : ByteArray) (a e e2 : Nat) (y Y : Int) (w : World) (hs : s.size ≤ 4194304) (ha : a + 2 ≤ s.size) (hE : Stops (nstep (s.extract (a + 2) s.size) 0) (s.extract (a + 2) s.size).size 0 e) (hes : a + 2 + e ≤ s.size)
    (hY : Lib.index (s.extract (a + 2) s.size).data.toList [63, 62] = Y) (hYy : (y = -1 ∧ Y = -1) ∨ (0 ≤ y ∧ Y = y + e)) (hyl : 0 ≤ y → (a : Int) + 2 + e + y + 2 ≤ s.size)
    (hE2 : 0 ≤ y → Stops (cstep (s.extract (a + 2 + e) (a + 2 + e + y.toNat))) y.toNat 0 e2 ∧ e2 ≤ y.toNat) (o : Nat × Bool)
    (ho : insOut (nmOK (s.extract (a + 2) (a + 2 + e)).data.toList) (xmlB (s.extract (a + 2) (a + 2 + e))) y (isSp (bt s (a + 2 + e))) (a + 2 + e) e2 = o) :
    Calls Tryf.prog 10 #[.string s, .int .i64 a] w fun r w' => (∃ n, w' = w.drewN n) ∧ r = .returned (.tuple #[.int .i64 o.1, .bool o.2, .int .i64 (lnOf s o)]) := by
  have hRz : (s.extract (a + 2) s.size).size = s.size - (a + 2) := by rw [ByteArray.size_extract]; omega
  have hX : (s.extract (a + 2) s.size).extract 0 e = s.extract (a + 2) (a + 2 + e) := by
    rw [ByteArray.extract_extract, Nat.add_zero, Nat.min_eq_left (by omega)]
  have hC : ∀ n, a + 2 + e + n ≤ s.size → (s.extract (a + 2) s.size).extract e (e + n) = s.extract (a + 2 + e) (a + 2 + e + n) := fun n hn => by
    rw [ByteArray.extract_extract, Nat.min_eq_left (by omega), show a + 2 + (e + n) = a + 2 + e + n by omega]
  have HE : Hid (Stops (nstep (s.extract (a + 2) s.size) 0) (s.extract (a + 2) s.size).size 0 e) := hE
  have HY : Hid (Lib.index (s.extract (a + 2) s.size).data.toList [63, 62] = Y) := hY
  have HE2 : Hid (0 ≤ y → Stops (cstep (s.extract (a + 2 + e) (a + 2 + e + y.toNat))) y.toNat 0 e2 ∧ e2 ≤ y.toNat) := hE2
  have HO : Hid (insOut (nmOK (s.extract (a + 2) (a + 2 + e)).data.toList) (xmlB (s.extract (a + 2) (a + 2 + e))) y (isSp (bt s (a + 2 + e))) (a + 2 + e) e2 = o) := ho
  have HX : Hid ((s.extract (a + 2) s.size).extract 0 e = s.extract (a + 2) (a + 2 + e)) := hX
  have HC : Hid (∀ n, a + 2 + e + n ≤ s.size → (s.extract (a + 2) s.size).extract e (e + n) = s.extract (a + 2 + e) (a + 2 + e + n)) := hC
  have haI : (a : Int) + 2 ≤ (s.size : Int) := by omega
  have L1 : Hid (∀ W, Calls Tryf.prog 16 #[.string s, .int .i64 ((a : Int) + 2 + (e : Int))] W fun r w' => r = .returned (.int .i64 (lineAt s (a + 2 + e))) ∧ w' = W) := fun W => by
    have h := zzLinesBefore_any s (a + 2 + e) W (by omega) (by omega)
    rw [show ((a + 2 + e : Nat) : Int) = (a : Int) + 2 + (e : Int) by omega] at h
    exact h
  clear hE hY hE2 ho hX hC
  go_enter Tryf.func10, Tryf.ntmps10
  go_wp2_with fail
  generalize hR : s.extract (a + 2) s.size = R at *
  refine (zzNameRun_any R e _ (by omega) HE.out).mono ?_
  rintro r w' ⟨rfl, n1, rfl⟩
  go_wp2_with fail
  refine (zzIndexClose_any R _ (by omega)).mono ?_
  rintro r w' ⟨rfl, rfl⟩
  rw [HY.out]
  have heI : (e : Int) ≤ (R.size : Int) := by omega
  have heN : e ≤ R.size := by omega
  go_wp2_with fail
  refine (zzNameShapeOK_any _ _ (by rw [HX.out]; simp; omega)).mono ?_
  rintro r w' ⟨rfl, rfl⟩
  rw [HX.out]
  cases hok : nmOK (s.extract (a + 2) (a + 2 + e)).data.toList with
  | false =>
    have HN : Hid (o = (a + 2 + e, false)) := by show _ = _; rw [← HO.out, hok]; unfold insOut; rw [if_pos (Or.inl rfl)]
    go_wp2_with fail
    refine (L1.out _).mono ?_
    rintro r w' ⟨rfl, rfl⟩
    go_wp2
    go_ret3
    exact ⟨⟨_, rfl⟩, tup_no HN.out (by omega)⟩
  | true =>
    have HOK : Hid (nmOK (s.extract (a + 2) (a + 2 + e)).data.toList = true) := hok
    go_wp2_with fail
    refine (zzIsXMLTarget_any _ _).mono ?_
    rintro r w' ⟨rfl, rfl⟩
    rw [HX.out]
    cases hxm : xmlB (s.extract (a + 2) (a + 2 + e)) with
    | true =>
      have HN : Hid (o = (a + 2 + e, false)) := by show _ = _; rw [← HO.out, hxm]; unfold insOut; rw [if_pos (Or.inr (Or.inl rfl))]
      go_wp2_with fail
      refine (L1.out _).mono ?_
      rintro r w' ⟨rfl, rfl⟩
      go_wp2
      go_ret3
      exact ⟨⟨_, rfl⟩, tup_no HN.out (by omega)⟩
    | false =>
      have HXM : Hid (xmlB (s.extract (a + 2) (a + 2 + e)) = false) := hxm
      rcases hYy with ⟨rfl, rfl⟩ | ⟨hy0, hYe⟩
      · have HN : Hid (o = (a + 2 + e, false)) := by show _ = _; rw [← HO.out]; unfold insOut; rw [if_pos (Or.inr (Or.inr (Or.inl (by omega))))]
        have hlt : (-1 : Int) < (e : Int) := by omega
        go_wp2_with fail
        refine (L1.out _).mono ?_
        rintro r w' ⟨rfl, rfl⟩
        go_wp2
        go_ret3
        exact ⟨⟨_, rfl⟩, tup_no HN.out (by omega)⟩
      · obtain ⟨n, rfl⟩ : ∃ n : Nat, y = (n : Int) := ⟨y.toNat, by omega⟩
        obtain ⟨N, rfl⟩ : ∃ N : Nat, Y = (N : Int) := ⟨Y.toNat, by omega⟩
        have hN : N = e + n := by omega
        have hyl' := hyl (by omega)
        have hNe : (e : Int) ≤ (N : Int) := by omega
        have hNeN : e ≤ N := by omega
        have hNR : (N : Int) ≤ (R.size : Int) := by omega
        have hNRN : N ≤ R.size := by omega
        have hlt : ¬ (N : Int) < (e : Int) := by omega
        have hCN : R.extract e N = s.extract (a + 2 + e) (a + 2 + e + n) := by rw [hN]; exact HC.out n (by omega)
        have hCz : (R.extract e N).size = n := by rw [ByteArray.size_extract]; omega
        have hE2' := HE2.out (by omega)
        rw [Int.toNat_natCast, ← hCN] at hE2'
        have hF : Stops (cstep (R.extract e N)) (R.extract e N).size 0 e2 := by rw [hCz]; exact hE2'.1
        have HF : Hid (Stops (cstep (R.extract e N)) (R.extract e N).size 0 e2) := hF
        have hb0 : 0 < n → bt (R.extract e N) 0 = bt s (a + 2 + e) := fun h => by rw [hCN, bt_extract _ _ _ _ (by omega), if_pos (by omega)]; rfl
        have HB0 : Hid (0 < n → bt (R.extract e N) 0 = bt s (a + 2 + e)) := hb0
        have he2n : e2 ≤ n := hE2'.2
        have L2 : Hid (∀ W, Calls Tryf.prog 16 #[.string s, .int .i64 ((a : Int) + 2 + (e : Int) + (e2 : Int))] W fun r w' => r = .returned (.int .i64 (lineAt s (a + 2 + e + e2))) ∧ w' = W) := fun W => by
          have h := zzLinesBefore_any s (a + 2 + e + e2) W (by omega) (by omega)
          rw [show ((a + 2 + e + e2 : Nat) : Int) = (a : Int) + 2 + (e : Int) + (e2 : Int) by omega] at h
          exact h
        have hgb := get_bt (R.extract e N)
        have HCZ : Hid ((R.extract e N).size = n) := hCz
        have HCL : Hid ((R.extract e N).size ≤ 4194304) := by show _ ≤ _; omega
        have HNN : Hid (N = e + n ∧ (N : Int) = (n : Int) + (e : Int)) := ⟨hN, hYe⟩
        clear hF hb0 hE2' hCN hN hYe
        by_cases hsp : 0 < n ∧ isSp (bt s (a + 2 + e)) = false
        · obtain ⟨hn0, hsp⟩ := hsp
          have HN : Hid (o = (a + 2 + e, false)) := by show _ = _; rw [← HO.out]; unfold insOut; rw [if_pos (Or.inr (Or.inr (Or.inr ⟨by omega, hsp⟩)))]
          have he : (R.extract e N).toList.isEmpty = false := by
            rw [Bool.eq_false_iff]
            intro h
            rw [Lib.toList_data, List.isEmpty_iff, ← List.length_eq_zero_iff, ← Lib.size_eq] at h
            omega
          have hz0 : 0 < min N (s.size - (a + 2)) - e := by have := HNN.out; omega
          clear hCz
          go_wp2_with fail
          refine (zzIsSpaceByte_any _ _).mono ?_
          rintro r w' ⟨rfl, rfl⟩
          rw [HB0.out hn0, hsp]
          go_wp2_with fail
          refine (L1.out _).mono ?_
          rintro r w' ⟨rfl, rfl⟩
          go_wp2
          go_ret3
          exact ⟨⟨_, rfl⟩, tup_no HN.out (by omega)⟩
        · have hO : insOut (nmOK (s.extract (a + 2) (a + 2 + e)).data.toList) (xmlB (s.extract (a + 2) (a + 2 + e))) (n : Int) (isSp (bt s (a + 2 + e))) (a + 2 + e) e2 = if e2 < n then (a + 2 + e + e2, false) else (a + 2 + e + n + 2, true) := by
            unfold insOut
            rw [if_neg, Int.toNat_natCast]
            · by_cases h : e2 < n
              · rw [if_pos (by omega), if_pos h]
              · rw [if_neg (by omega), if_neg h]
            · rintro (h | h | h | ⟨h, h'⟩)
              · rw [HOK.out] at h; cases h
              · rw [HXM.out] at h; cases h
              · omega
              · exact hsp ⟨by omega, h'⟩
          have HN : Hid (o = if e2 < n then (a + 2 + e + e2, false) else (a + 2 + e + n + 2, true)) := HO.out.symm.trans hO
          clear hO
          by_cases hn0 : n = 0
          · have he : (R.extract e N).toList.isEmpty = true := by
              rw [Lib.toList_data, List.isEmpty_iff, ← List.length_eq_zero_iff, ← Lib.size_eq]; omega
            clear hCz
            go_wp2_with fail
            refine (zzFirstRefused_any _ _ _ HCL.out HF.out).mono ?_
            rintro r w' ⟨rfl, n2, rfl⟩
            rw [drewN_drewN]
            rw [show refAt (R.extract e N).size e2 = -1 by rw [HCZ.out]; unfold refAt; rw [if_neg (by omega)]]
            go_wp2
            go_ret3
            refine ⟨⟨_, rfl⟩, tup_yes (HN.out.trans (if_neg (by omega))) (by have := HNN.out; omega)⟩
          · have hsp' : isSp (bt s (a + 2 + e)) = true := by
              cases h : isSp (bt s (a + 2 + e))
              · exact absurd ⟨by omega, h⟩ hsp
              · rfl
            have he : (R.extract e N).toList.isEmpty = false := by
              rw [Bool.eq_false_iff]
              intro h
              rw [Lib.toList_data, List.isEmpty_iff, ← List.length_eq_zero_iff, ← Lib.size_eq] at h
              omega
            have hz0 : 0 < min N (s.size - (a + 2)) - e := by have := HNN.out; omega
            clear hCz
            go_wp2_with fail
            refine (zzIsSpaceByte_any _ _).mono ?_
            rintro r w' ⟨rfl, rfl⟩
            rw [HB0.out (by omega), hsp']
            go_wp2_with fail
            refine (zzFirstRefused_any _ _ _ HCL.out HF.out).mono ?_
            rintro r w' ⟨rfl, n2, rfl⟩
            rw [drewN_drewN]
            by_cases hlt2 : e2 < n
            · rw [show refAt (R.extract e N).size e2 = (e2 : Int) by rw [HCZ.out]; unfold refAt; rw [if_pos hlt2]]
              have hd2 : decide ((0 : Int) ≤ (e2 : Int)) = true := by simp
              go_wp2_with fail
              refine (L2.out _).mono ?_
              rintro r w' ⟨rfl, rfl⟩
              go_wp2
              go_ret3
              refine ⟨⟨_, rfl⟩, tup_no (HN.out.trans (if_pos hlt2)) (by omega)⟩
            · rw [show refAt (R.extract e N).size e2 = -1 by rw [HCZ.out]; unfold refAt; rw [if_neg hlt2]]
              go_wp2
              go_ret3
              refine ⟨⟨_, rfl⟩, tup_yes (HN.out.trans (if_neg hlt2)) (by have := HNN.out; omega)⟩
end Go.Proofs.Qxb6606017aFmt
