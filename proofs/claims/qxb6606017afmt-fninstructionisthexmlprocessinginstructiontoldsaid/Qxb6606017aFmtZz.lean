import Derived.Test.Qxb6606017aFmtFold
import Derived.Lib.IndexMore
import Derived.Lib.IndexLaws
namespace Go.Proofs.Qxb6606017aFmt
open Go.RowKit Go.PlainAid

theorem ret_int {k : IntKind} {a b : Int} (h : a = b) : Ending.returned (.int k a) = .returned (.int k b) := by rw [h]
theorem lineAt_zero (s : ByteArray) : lineAt s 0 = 1 := by simp [lineAt, Lib.countByte]
theorem lineAt_succ (s : ByteArray) (k : Nat) (h : k < s.size) : lineAt s (k + 1) = if bt s k = 10 then lineAt s k + 1 else lineAt s k := by
  have h' : k < s.data.toList.length := by simpa using h
  have e : s.data.toList.take (k + 1) = s.data.toList.take k ++ [s.data.toList[k]] := (List.take_append_getElem h').symm
  have hb : bt s k = (s.data.toList[k]'h').toNat := by
    rw [← get_bt s k h]; simp [ByteArray.getElem_eq_getElem_data]
  unfold lineAt Lib.countByte
  rw [e, List.count_append, hb]
  generalize s.data.toList[k] = x
  by_cases hx : x = 10
  · subst hx; simp; omega
  · rw [if_neg]
    · simp [hx]
    · intro h; apply hx; exact UInt8.toNat_inj.1 (by simpa using (by omega : x.toNat = 10))

set_option maxRecDepth 8000 in
set_option maxHeartbeats 1000000 in
theorem zzLinesBefore_any (s : ByteArray) (e : Nat) (w : World) (hs : s.size ≤ 4194304) (he : e ≤ s.size) :
    Calls Tryf.prog 16 #[.string s, .int .i64 e] w fun r w' => r = .returned (.int .i64 (lineAt s e)) ∧ w' = w := by
  have hgb := get_bt s
  go_enter Tryf.func16, Tryf.ntmps16
  go_wp2_with fail
  go_loopg [5, 6] e (fun g nv iv wr => ∃ k : Nat, g = e - k ∧ nv = .int .i64 (lineAt s k) ∧ iv = .int .i64 k ∧ k ≤ e ∧ wr = w)
  case atStart => exact ⟨0, rfl, by rw [lineAt_zero]; rfl, rfl, Nat.zero_le _, rfl⟩
  case round =>
    obtain ⟨k, hg, rfl, rfl, hk, rfl⟩ := hrel
    have HG : Hid (gk = e - k) := hg
    clear hg
    have hl := lineAt_le s k
    by_cases hlt : k < e
    · have h1 : (k : Int) < (e : Int) := by omega
      have h2 : (k : Int) < (s.size : Int) := by omega
      have h3 : k < s.size := by omega
      have hsucc := lineAt_succ s k h3
      cases hq : (bt s k == 10) with
      | true =>
        rw [if_pos (by simpa using hq)] at hsucc
        have HS : Hid (lineAt s (k + 1) = lineAt s k + 1) := hsucc
        clear hsucc
        go_wp2_with fail
        go_roundg (e - (k + 1))
        case measure => have := HG.out; omega
        case rel => exact ⟨k + 1, rfl, by rw [HS.out]; go_num, by go_num, by omega, rfl⟩
      | false =>
        rw [if_neg (by simpa using hq)] at hsucc
        have HS : Hid (lineAt s (k + 1) = lineAt s k) := hsucc
        clear hsucc
        go_wp2_with fail
        go_roundg (e - (k + 1))
        case measure => have := HG.out; omega
        case rel => exact ⟨k + 1, rfl, by rw [HS.out], by go_num, by omega, rfl⟩
    · have h1 : ¬ (k : Int) < (e : Int) := by omega
      obtain rfl : k = e := by omega
      go_wp2
      go_ret
      exact ⟨rfl, rfl⟩

theorem bt_opt (s : ByteArray) (k : Nat) (c : UInt8) (hc : 1 ≤ c.toNat) : (bt s k == (c.toNat : Int)) = (s.data.toList[k]? == some c) := by
  rcases Nat.lt_or_ge k s.size with h | h
  · rw [← get_bt s k h, Bool.eq_iff_iff, List.getElem?_eq_getElem (by simpa using h)]
    simp only [beq_iff_eq, Option.some.injEq, Array.getElem_toList, ByteArray.getElem_eq_getElem_data]
    rw [← UInt8.toNat_inj]
    omega
  · rw [bt_end s h, List.getElem?_eq_none (by simpa using h)]
    have : ((0 : Int) == (c.toNat : Int)) = false := by rw [beq_eq_false_iff_ne]; omega
    rw [this]; rfl
theorem occ_two (l : List UInt8) (a b : UInt8) (k : Nat) : Lib.occAt l [a, b] k = ((l[k]? == some a) && (l[k + 1]? == some b)) := by
  unfold Lib.occAt
  have e0 : (l.drop k)[0]? = l[k]? := by rw [List.getElem?_drop]; rfl
  have e1 : (l.drop k)[1]? = l[k + 1]? := by rw [List.getElem?_drop]
  rw [← e0, ← e1]
  match l.drop k with
  | [] => rfl
  | [x] => simp [List.isPrefixOf]
  | x :: y :: t => rw [Bool.eq_iff_iff]; simp [List.isPrefixOf]; constructor <;> rintro ⟨h1, h2⟩ <;> exact ⟨h1.symm, h2.symm⟩
/-- '?>' stands at place k. -/
theorem occ_close (s : ByteArray) (k : Nat) : Lib.occAt s.data.toList [63, 62] k = ((bt s k == 63) && (bt s (k + 1) == 62)) := by
  rw [occ_two, ← bt_opt s k 63 (by decide), ← bt_opt s (k + 1) 62 (by decide)]; rfl

set_option maxRecDepth 8000 in
set_option maxHeartbeats 1000000 in
theorem zzIndexClose_any (s : ByteArray) (w : World) (hs : s.size ≤ 4194304) :
    Calls Tryf.prog 14 #[.string s] w fun r w' => r = .returned (.int .i64 (Lib.index s.data.toList [63, 62])) ∧ w' = w := by
  have hgb := get_bt s
  go_enter Tryf.func14, Tryf.ntmps14
  go_wp2_with fail
  go_loopg [3] (s.size) (fun g iv wr => ∃ k : Nat, g = s.size - k ∧ iv = .int .i64 k ∧ k ≤ s.size ∧ Lib.NoOcc s.data.toList [63, 62] k ∧ wr = w)
  case atStart => exact ⟨0, rfl, rfl, Nat.zero_le _, fun j hj => by omega, rfl⟩
  case round =>
    obtain ⟨k, hg, rfl, hk, hno, rfl⟩ := hrel
    have HG : Hid (gk = s.size - k) := hg
    have HN : Hid (Lib.NoOcc s.data.toList [63, 62] k) := hno
    clear hg hno
    by_cases hlt : k + 1 < s.size
    · have h1 : (k : Int) + 1 < (s.size : Int) := by omega
      have h2 : (k : Int) < (s.size : Int) := by omega
      have h3 : k < s.size := by omega
      have h4 : ((k : Int) + 1).toNat = k + 1 := by omega
      have HO : Hid (Lib.occAt s.data.toList [63, 62] k = ((bt s k == 63) && (bt s (k + 1) == 62))) := occ_close s k
      cases hq : (bt s k == 63) with
      | true =>
        cases hq2 : (bt s (k + 1) == 62) with
        | true =>
          have HQ : Hid (Lib.occAt s.data.toList [63, 62] k = true) := by show _ = _; rw [HO.out, hq, hq2]; rfl
          go_wp2_with fail
          go_ret
          exact ⟨ret_int (Lib.index_hit HN.out (by simpa using hk) HQ.out).symm, rfl⟩
        | false =>
          have HQ : Hid (Lib.occAt s.data.toList [63, 62] k = false) := by show _ = _; rw [HO.out, hq, hq2]; rfl
          go_wp2_with fail
          go_roundg (s.size - (k + 1))
          case measure => have := HG.out; omega
          case rel => exact ⟨k + 1, rfl, by go_num, by omega, fun j hj => by
            rcases Nat.lt_or_ge j k with h | h
            · exact HN.out j h
            · obtain rfl : j = k := by omega
              exact HQ.out, rfl⟩
      | false =>
        have HQ : Hid (Lib.occAt s.data.toList [63, 62] k = false) := by show _ = _; rw [HO.out, hq]; rfl
        go_wp2_with fail
        go_roundg (s.size - (k + 1))
        case measure => have := HG.out; omega
        case rel => exact ⟨k + 1, rfl, by go_num, by omega, fun j hj => by
          rcases Nat.lt_or_ge j k with h | h
          · exact HN.out j h
          · obtain rfl : j = k := by omega
            exact HQ.out, rfl⟩
    · have h1 : ¬ (k : Int) + 1 < (s.size : Int) := by omega
      go_wp2
      go_ret
      exact ⟨ret_int (Lib.index_past (by simp) HN.out (by simp; omega)).symm, rfl⟩

theorem or_all : (List.range 256).all (fun n => decide (((bits .or .u8 (n : Int) 32 = 120) ↔ (n = 120 ∨ n = 88)) ∧ ((bits .or .u8 (n : Int) 32 = 109) ↔ (n = 109 ∨ n = 77)) ∧ ((bits .or .u8 (n : Int) 32 = 108) ↔ (n = 108 ∨ n = 76)))) = true := by decide +kernel
theorem or_of (b : Int) (h0 : 0 ≤ b) (h1 : b ≤ 255) : ((bits .or .u8 b 32 = 120) ↔ (b = 120 ∨ b = 88)) ∧ ((bits .or .u8 b 32 = 109) ↔ (b = 109 ∨ b = 77)) ∧ ((bits .or .u8 b 32 = 108) ↔ (b = 108 ∨ b = 76)) := by
  obtain ⟨n, rfl⟩ : ∃ n : Nat, b = (n : Int) := ⟨b.toNat, by omega⟩
  obtain ⟨a, b, c⟩ := of_decide_eq_true (List.all_eq_true.1 or_all n (List.mem_range.2 (by omega)))
  exact ⟨a.trans (by omega), b.trans (by omega), c.trans (by omega)⟩

set_option maxRecDepth 8000 in
set_option maxHeartbeats 1000000 in
theorem zzIsXMLTarget_any (s : ByteArray) (w : World) :
    Calls Tryf.prog 13 #[.string s] w fun r w' => r = .returned (.bool (xmlB s)) ∧ w' = w := by
  have hgb := get_bt s
  by_cases h3 : s.size = 3
  · have hd : decide ((s.size : Int) = 3) = true := by simp; omega
    have hb0 := bt_nonneg s 0
    have hb1 := bt_nonneg s 1
    have hb2 := bt_nonneg s 2
    have hc0 := bt_le s 0
    have hc1 := bt_le s 1
    have hc2 := bt_le s 2
    go_enter Tryf.func13, Tryf.ntmps13
    go_wp2_with fail
    all_goals
      go_ret
      refine ⟨ret_bool ?_, rfl⟩
      have o0 := (or_of _ (bt_nonneg s 0) (bt_le s 0)).1
      have o1 := (or_of _ (bt_nonneg s 1) (bt_le s 1)).2.1
      have o2 := (or_of _ (bt_nonneg s 2) (bt_le s 2)).2.2
      simp only [o0, o1] at *
      rw [Bool.eq_iff_iff]
      simp [xmlB, *]
  · have hd : decide ((s.size : Int) = 3) = false := by simp; omega
    go_enter Tryf.func13, Tryf.ntmps13
    go_wp2
    go_ret
    exact ⟨ret_bool (by simp [xmlB, h3]), rfl⟩

/-- The alphabet of the names. -/
def alph : ByteArray := ⟨(List.append [97, 98, 99, 100, 101, 102, 103, 104, 105, 106, 107, 108, 109, 110, 111, 112, 113, 114, 115, 116, 117, 118, 119, 120, 121, 122, 65, 66, 67, 68, 69, 70, 71] [72, 73, 74, 75, 76, 77, 78, 79, 80, 81, 82, 83, 84, 85, 86, 87, 88, 89, 90, 48, 49, 50, 51, 52, 53, 54, 55, 56, 57, 95, 58, 45, 46]).toArray⟩
theorem alph_size : alph.size = 66 := rfl
def inAlph (c : Int) : Bool := (List.range 66).any fun k => bt alph k == c
theorem alph_all : (List.range 256).all (fun n => inAlph (n : Int) == ascNm (n : Int)) = true := by decide +kernel
theorem inAlph_eq (c : Int) (h0 : 0 ≤ c) (h1 : c ≤ 255) : inAlph c = ascNm c := by
  obtain ⟨n, rfl⟩ : ∃ n : Nat, c = (n : Int) := ⟨c.toNat, by omega⟩
  simpa using List.all_eq_true.1 alph_all n (List.mem_range.2 (by omega))

set_option maxRecDepth 8000 in
set_option maxHeartbeats 1000000 in
theorem zzInNameAlphabet_any (c : Int) (w : World) :
    Calls Tryf.prog 23 #[.int .u8 c] w fun r w' => r = .returned (.bool (inAlph c)) ∧ w' = w := by
  go_enter Tryf.func23, Tryf.ntmps23
  go_wp2_with fail
  go_loopg [3] 66 (fun g iv wr => ∃ k : Nat, g = 66 - k ∧ iv = .int .i64 k ∧ k ≤ 66 ∧ (∀ j, j < k → bt alph j ≠ c) ∧ wr = w)
  case atStart => exact ⟨0, rfl, rfl, Nat.zero_le _, fun j hj => by omega, rfl⟩
  case round =>
    obtain ⟨k, hg, rfl, hk, hno, rfl⟩ := hrel
    have HG : Hid (gk = 66 - k) := hg
    have HN : Hid (∀ j, j < k → bt alph j ≠ c) := hno
    clear hg hno
    by_cases hlt : k < 66
    · have h1 : (k : Int) < 66 := by omega
      have hka : k < alph.size := hlt
      go_wp2_with fail
      · rename_i hq
        have hq' : ((alph[k].toNat : Int) == c) = true := hq
        rw [get_bt alph k hka] at hq'
        clear hq
        go_ret
        refine ⟨ret_bool ?_, rfl⟩
        symm
        unfold inAlph
        rw [List.any_eq_true]
        exact ⟨k, List.mem_range.2 hlt, hq'⟩
      · rename_i hq
        have hq' : ((alph[k].toNat : Int) == c) = false := hq
        rw [get_bt alph k hka] at hq'
        clear hq
        go_roundg (66 - (k + 1))
        case measure => have := HG.out; omega
        case rel => exact ⟨k + 1, rfl, by go_num, by omega, fun j hj => by
          rcases Nat.lt_or_ge j k with h | h
          · exact HN.out j h
          · obtain rfl : j = k := by omega
            simpa using hq', rfl⟩
    · have h1 : ¬ (k : Int) < 66 := by omega
      go_wp2
      go_ret
      refine ⟨ret_bool ?_, rfl⟩
      symm
      unfold inAlph
      rw [List.any_eq_false]
      intro j hj
      simpa using HN.out j (by have := List.mem_range.1 hj; omega)
end Go.Proofs.Qxb6606017aFmt
