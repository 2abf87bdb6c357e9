import Derived.Test.Qxb6606017aFmtZz
import Derived.Laws.BitsLemmas
namespace Go.Proofs.Qxb6606017aFmt
open Go.RowKit Go.PlainAid

def decV (s : ByteArray) (i : Nat) : Ending := .returned (.tuple #[.int .i32 (dec s i).1, .int .i64 (dec s i).2.1, .bool (dec s i).2.2])
theorem decV_eq {s : ByteArray} {i : Nat} {r : Int} {k : Nat} {o : Bool} (h : dec s i = (r, k, o)) : decV s i = .returned (.tuple #[.int .i32 r, .int .i64 k, .bool o]) := by unfold decV; rw [h]
theorem decV_no {s : ByteArray} {i : Nat} (h : dec s i = (0, 1, false)) {r : Ending} (hr : r = .returned (.tuple #[.int .i32 0, .int .i64 1, .bool false])) : r = decV s i := by rw [hr, decV_eq h]; rfl

set_option maxRecDepth 8000 in
set_option maxHeartbeats 2000000 in
theorem rune_one (s : ByteArray) (i : Nat) (w : World) (hs : s.size ≤ 4194304) (hi : i < s.size) (h1 : bt s i < 128) :
    Calls Tryf.prog 24 #[.string s, .int .i64 i] w fun r w' => r = decV s i ∧ ∃ n, w' = w.drewN n := by
  have hiI : (i : Int) < (s.size : Int) := by omega
  have hgb := get_bt s
  have h0 := bt_nonneg s i
  have HD : Hid (dec s i = (bt s i, 1, true)) := dec_asc s i h1
  go_enter Tryf.func24, Tryf.ntmps24
  go_wp2_with fail
  go_ret3
  exact ⟨(decV_eq HD.out).symm, 0, rfl⟩

set_option maxRecDepth 8000 in
set_option maxHeartbeats 2000000 in
theorem rune_none (s : ByteArray) (i : Nat) (w : World) (hs : s.size ≤ 4194304) (hi : i < s.size) (h1 : 128 ≤ bt s i) (h2 : bt s i < 194 ∨ 244 < bt s i) :
    Calls Tryf.prog 24 #[.string s, .int .i64 i] w fun r w' => r = decV s i ∧ ∃ n, w' = w.drewN n := by
  have hiI : (i : Int) < (s.size : Int) := by omega
  have hgb := get_bt s
  have hlo : ¬ bt s i < 128 := by omega
  have HD : Hid (dec s i = (0, 1, false)) := by
    show _ = _
    unfold dec
    rw [if_neg hlo, if_neg (by omega), if_neg (by omega), if_neg (by omega)]
  rcases h2 with h2 | h2
  · have a1 : ¬ 194 ≤ bt s i := by omega
    have a2 : ¬ 224 ≤ bt s i := by omega
    have a3 : ¬ 240 ≤ bt s i := by omega
    go_enter Tryf.func24, Tryf.ntmps24
    go_wp2_with fail
    go_ret3
    exact ⟨decV_no HD.out rfl, 0, rfl⟩
  · have a1 : 194 ≤ bt s i := by omega
    have a2 : 224 ≤ bt s i := by omega
    have a3 : 240 ≤ bt s i := by omega
    have b1 : ¬ bt s i ≤ 223 := by omega
    have b2 : ¬ bt s i ≤ 239 := by omega
    have b3 : ¬ bt s i ≤ 244 := by omega
    go_enter Tryf.func24, Tryf.ntmps24
    go_wp2_with fail
    go_ret3
    exact ⟨decV_no HD.out rfl, 0, rfl⟩

set_option maxRecDepth 8000 in
set_option maxHeartbeats 2000000 in
theorem rune_two (s : ByteArray) (i : Nat) (w : World) (hs : s.size ≤ 4194304) (hi : i < s.size) (h1 : 194 ≤ bt s i) (h2 : bt s i ≤ 223) :
    Calls Tryf.prog 24 #[.string s, .int .i64 i] w fun r w' => r = decV s i ∧ ∃ n, w' = w.drewN n := by
  have hiI : (i : Int) < (s.size : Int) := by omega
  have hgb := get_bt s
  have hlo : ¬ bt s i < 128 := by omega
  have h0 := bt_nonneg s (i + 1)
  have h0' := bt_le s (i + 1)
  by_cases hf : i + 1 < s.size
  · have hfI : ¬ (s.size : Int) - (i : Int) < 2 := by omega
    have e1 : ((i : Int) + 1).toNat = i + 1 := by omega
    have e2 : (i : Int) + 1 < (s.size : Int) := by omega
    by_cases hc : 128 ≤ bt s (i + 1) ∧ bt s (i + 1) ≤ 191
    · have HD : Hid (dec s i = (bt s i % 32 * 64 + bt s (i + 1) % 64, 2, true)) := by show _ = _; unfold dec; rw [if_neg hlo, if_pos ⟨h1, h2⟩, if_pos hc]
      have m0 : bits .and .u8 (bt s i) 31 = bt s i % 32 := u8_and31 _ (by omega) (by omega)
      have m1 : bits .and .u8 (bt s (i + 1)) 63 = bt s (i + 1) % 64 := u8_and63 _ (by omega) (by omega)
      have m2 : bits .or .i32 (bt s i % 32 * 64) (bt s (i + 1) % 64) = bt s i % 32 * 64 + bt s (i + 1) % 64 := i32_or6 _ _ (by omega) (by omega) (by omega) (by omega) (by omega)
      go_enter Tryf.func24, Tryf.ntmps24
      go_wp2_with (go_at_call 38; refine (zzCont_any _ _ _ _).mono ?_; rintro e w' ⟨rfl, rfl⟩)
      go_ret3
      exact ⟨(decV_eq HD.out).symm, 0, rfl⟩
    · have HD : Hid (dec s i = (0, 1, false)) := by show _ = _; unfold dec; rw [if_neg hlo, if_pos ⟨h1, h2⟩, if_neg hc]
      go_enter Tryf.func24, Tryf.ntmps24
      go_wp2_with (go_at_call 38; refine (zzCont_any _ _ _ _).mono ?_; rintro e w' ⟨rfl, rfl⟩)
      go_ret3
      exact ⟨decV_no HD.out rfl, 0, rfl⟩
  · have hfI : (s.size : Int) - (i : Int) < 2 := by omega
    have hc := bt_end s (show s.size ≤ i + 1 by omega)
    have HD : Hid (dec s i = (0, 1, false)) := by show _ = _; unfold dec; rw [if_neg hlo, if_pos ⟨h1, h2⟩, if_neg (by omega)]
    go_enter Tryf.func24, Tryf.ntmps24
    go_wp2_with (go_at_call 38; refine (zzCont_any _ _ _ _).mono ?_; rintro e w' ⟨rfl, rfl⟩)
    go_ret3
    exact ⟨decV_no HD.out rfl, 0, rfl⟩

set_option maxRecDepth 8000 in
set_option maxHeartbeats 4000000 in
theorem rune_e0 (s : ByteArray) (i : Nat) (w : World) (hs : s.size ≤ 4194304) (hi : i < s.size) (h1 : 224 ≤ bt s i) (h2 : bt s i ≤ 239) (q0 : (bt s i == 224) = true) (q1 : (bt s i == 237) = false) :
    Calls Tryf.prog 24 #[.string s, .int .i64 i] w fun r w' => r = decV s i ∧ ∃ n, w' = w.drewN n := by
  have hiI : (i : Int) < (s.size : Int) := by omega
  have hgb := get_bt s
  have hlo : ¬ bt s i < 128 := by omega
  have b1 : ¬ bt s i ≤ 223 := by omega
  have b0 : 194 ≤ bt s i := by omega
  have h0 := bt_nonneg s (i + 1)
  have h0' := bt_le s (i + 1)
  have g0 := bt_nonneg s (i + 2)
  have g0' := bt_le s (i + 2)
  have hw0 : bt s i = 224 := by simpa using q0
  have hw1 : bt s i ≠ 237 := by simpa using q1
  by_cases hf : i + 2 < s.size
  · have hfI : ¬ (s.size : Int) - (i : Int) < 3 := by omega
    have e1 : ((i : Int) + 1).toNat = i + 1 := by omega
    have e2 : (i : Int) + 1 < (s.size : Int) := by omega
    have e3 : ((i : Int) + 2).toNat = i + 2 := by omega
    have e4 : (i : Int) + 2 < (s.size : Int) := by omega
    by_cases hc : 160 ≤ bt s (i + 1) ∧ bt s (i + 1) ≤ 191
    · by_cases hc2 : 128 ≤ bt s (i + 2) ∧ bt s (i + 2) ≤ 191
      · have HD : Hid (dec s i = (bt s i % 16 * 4096 + bt s (i + 1) % 64 * 64 + bt s (i + 2) % 64, 3, true)) := by show _ = _; unfold dec; rw [if_neg hlo, if_neg (by omega), if_pos ⟨h1, h2⟩, if_pos (by omega)]
        have m0 : bits .and .u8 (bt s i) 15 = bt s i % 16 := u8_and15 _ (by omega) (by omega)
        have m1 : bits .and .u8 (bt s (i + 1)) 63 = bt s (i + 1) % 64 := u8_and63 _ (by omega) (by omega)
        have m2 : bits .and .u8 (bt s (i + 2)) 63 = bt s (i + 2) % 64 := u8_and63 _ (by omega) (by omega)
        have m3 : bits .or .i32 (bt s i % 16 * 4096) (bt s (i + 1) % 64 * 64) = bt s i % 16 * 4096 + bt s (i + 1) % 64 * 64 := i32_or12 _ _ (by omega) (by omega) (by omega) (by omega) (by omega)
        have m4 : bits .or .i32 (bt s i % 16 * 4096 + bt s (i + 1) % 64 * 64) (bt s (i + 2) % 64) = bt s i % 16 * 4096 + bt s (i + 1) % 64 * 64 + bt s (i + 2) % 64 := i32_or6 _ _ (by omega) (by omega) (by omega) (by omega) (by omega)
        clear hw0 hw1
        go_enter Tryf.func24, Tryf.ntmps24
        go_wp2_with (go_at_call 38; refine (zzCont_any _ _ _ _).mono ?_; rintro e w' ⟨rfl, rfl⟩)
        go_region
        go_wp2
        go_ret3
        exact ⟨(decV_eq HD.out).symm, 1, rfl⟩
      · have HD : Hid (dec s i = (0, 1, false)) := by show _ = _; unfold dec; rw [if_neg hlo, if_neg (by omega), if_pos ⟨h1, h2⟩, if_neg (by omega)]
        clear hw0 hw1
        go_enter Tryf.func24, Tryf.ntmps24
        go_wp2_with (go_at_call 38; refine (zzCont_any _ _ _ _).mono ?_; rintro e w' ⟨rfl, rfl⟩)
        go_ret3
        exact ⟨decV_no HD.out rfl, 0, rfl⟩
    · have HD : Hid (dec s i = (0, 1, false)) := by show _ = _; unfold dec; rw [if_neg hlo, if_neg (by omega), if_pos ⟨h1, h2⟩, if_neg (by omega)]
      clear hw0 hw1
      go_enter Tryf.func24, Tryf.ntmps24
      go_wp2_with (go_at_call 38; refine (zzCont_any _ _ _ _).mono ?_; rintro e w' ⟨rfl, rfl⟩)
      go_ret3
      exact ⟨decV_no HD.out rfl, 0, rfl⟩
  · have hfI : (s.size : Int) - (i : Int) < 3 := by omega
    have hc := bt_end s (show s.size ≤ i + 2 by omega)
    have HD : Hid (dec s i = (0, 1, false)) := by show _ = _; unfold dec; rw [if_neg hlo, if_neg (by omega), if_pos ⟨h1, h2⟩, if_neg (by omega)]
    clear hw0 hw1
    go_enter Tryf.func24, Tryf.ntmps24
    go_wp2_with (go_at_call 38; refine (zzCont_any _ _ _ _).mono ?_; rintro e w' ⟨rfl, rfl⟩)
    go_ret3
    exact ⟨decV_no HD.out rfl, 0, rfl⟩

set_option maxRecDepth 8000 in
set_option maxHeartbeats 4000000 in
theorem rune_ed (s : ByteArray) (i : Nat) (w : World) (hs : s.size ≤ 4194304) (hi : i < s.size) (h1 : 224 ≤ bt s i) (h2 : bt s i ≤ 239) (q0 : (bt s i == 224) = false) (q1 : (bt s i == 237) = true) :
    Calls Tryf.prog 24 #[.string s, .int .i64 i] w fun r w' => r = decV s i ∧ ∃ n, w' = w.drewN n := by
  have hiI : (i : Int) < (s.size : Int) := by omega
  have hgb := get_bt s
  have hlo : ¬ bt s i < 128 := by omega
  have b1 : ¬ bt s i ≤ 223 := by omega
  have b0 : 194 ≤ bt s i := by omega
  have h0 := bt_nonneg s (i + 1)
  have h0' := bt_le s (i + 1)
  have g0 := bt_nonneg s (i + 2)
  have g0' := bt_le s (i + 2)
  have hw0 : bt s i ≠ 224 := by simpa using q0
  have hw1 : bt s i = 237 := by simpa using q1
  by_cases hf : i + 2 < s.size
  · have hfI : ¬ (s.size : Int) - (i : Int) < 3 := by omega
    have e1 : ((i : Int) + 1).toNat = i + 1 := by omega
    have e2 : (i : Int) + 1 < (s.size : Int) := by omega
    have e3 : ((i : Int) + 2).toNat = i + 2 := by omega
    have e4 : (i : Int) + 2 < (s.size : Int) := by omega
    by_cases hc : 128 ≤ bt s (i + 1) ∧ bt s (i + 1) ≤ 159
    · by_cases hc2 : 128 ≤ bt s (i + 2) ∧ bt s (i + 2) ≤ 191
      · have HD : Hid (dec s i = (bt s i % 16 * 4096 + bt s (i + 1) % 64 * 64 + bt s (i + 2) % 64, 3, true)) := by show _ = _; unfold dec; rw [if_neg hlo, if_neg (by omega), if_pos ⟨h1, h2⟩, if_pos (by omega)]
        have m0 : bits .and .u8 (bt s i) 15 = bt s i % 16 := u8_and15 _ (by omega) (by omega)
        have m1 : bits .and .u8 (bt s (i + 1)) 63 = bt s (i + 1) % 64 := u8_and63 _ (by omega) (by omega)
        have m2 : bits .and .u8 (bt s (i + 2)) 63 = bt s (i + 2) % 64 := u8_and63 _ (by omega) (by omega)
        have m3 : bits .or .i32 (bt s i % 16 * 4096) (bt s (i + 1) % 64 * 64) = bt s i % 16 * 4096 + bt s (i + 1) % 64 * 64 := i32_or12 _ _ (by omega) (by omega) (by omega) (by omega) (by omega)
        have m4 : bits .or .i32 (bt s i % 16 * 4096 + bt s (i + 1) % 64 * 64) (bt s (i + 2) % 64) = bt s i % 16 * 4096 + bt s (i + 1) % 64 * 64 + bt s (i + 2) % 64 := i32_or6 _ _ (by omega) (by omega) (by omega) (by omega) (by omega)
        clear hw0 hw1
        go_enter Tryf.func24, Tryf.ntmps24
        go_wp2_with (go_at_call 38; refine (zzCont_any _ _ _ _).mono ?_; rintro e w' ⟨rfl, rfl⟩)
        go_region
        go_wp2
        go_ret3
        exact ⟨(decV_eq HD.out).symm, 1, rfl⟩
      · have HD : Hid (dec s i = (0, 1, false)) := by show _ = _; unfold dec; rw [if_neg hlo, if_neg (by omega), if_pos ⟨h1, h2⟩, if_neg (by omega)]
        clear hw0 hw1
        go_enter Tryf.func24, Tryf.ntmps24
        go_wp2_with (go_at_call 38; refine (zzCont_any _ _ _ _).mono ?_; rintro e w' ⟨rfl, rfl⟩)
        go_ret3
        exact ⟨decV_no HD.out rfl, 0, rfl⟩
    · have HD : Hid (dec s i = (0, 1, false)) := by show _ = _; unfold dec; rw [if_neg hlo, if_neg (by omega), if_pos ⟨h1, h2⟩, if_neg (by omega)]
      clear hw0 hw1
      go_enter Tryf.func24, Tryf.ntmps24
      go_wp2_with (go_at_call 38; refine (zzCont_any _ _ _ _).mono ?_; rintro e w' ⟨rfl, rfl⟩)
      go_ret3
      exact ⟨decV_no HD.out rfl, 0, rfl⟩
  · have hfI : (s.size : Int) - (i : Int) < 3 := by omega
    have hc := bt_end s (show s.size ≤ i + 2 by omega)
    have HD : Hid (dec s i = (0, 1, false)) := by show _ = _; unfold dec; rw [if_neg hlo, if_neg (by omega), if_pos ⟨h1, h2⟩, if_neg (by omega)]
    clear hw0 hw1
    go_enter Tryf.func24, Tryf.ntmps24
    go_wp2_with (go_at_call 38; refine (zzCont_any _ _ _ _).mono ?_; rintro e w' ⟨rfl, rfl⟩)
    go_ret3
    exact ⟨decV_no HD.out rfl, 0, rfl⟩

set_option maxRecDepth 8000 in
set_option maxHeartbeats 4000000 in
theorem rune_e (s : ByteArray) (i : Nat) (w : World) (hs : s.size ≤ 4194304) (hi : i < s.size) (h1 : 224 ≤ bt s i) (h2 : bt s i ≤ 239) (q0 : (bt s i == 224) = false) (q1 : (bt s i == 237) = false) :
    Calls Tryf.prog 24 #[.string s, .int .i64 i] w fun r w' => r = decV s i ∧ ∃ n, w' = w.drewN n := by
  have hiI : (i : Int) < (s.size : Int) := by omega
  have hgb := get_bt s
  have hlo : ¬ bt s i < 128 := by omega
  have b1 : ¬ bt s i ≤ 223 := by omega
  have b0 : 194 ≤ bt s i := by omega
  have h0 := bt_nonneg s (i + 1)
  have h0' := bt_le s (i + 1)
  have g0 := bt_nonneg s (i + 2)
  have g0' := bt_le s (i + 2)
  have hw0 : bt s i ≠ 224 := by simpa using q0
  have hw1 : bt s i ≠ 237 := by simpa using q1
  by_cases hf : i + 2 < s.size
  · have hfI : ¬ (s.size : Int) - (i : Int) < 3 := by omega
    have e1 : ((i : Int) + 1).toNat = i + 1 := by omega
    have e2 : (i : Int) + 1 < (s.size : Int) := by omega
    have e3 : ((i : Int) + 2).toNat = i + 2 := by omega
    have e4 : (i : Int) + 2 < (s.size : Int) := by omega
    by_cases hc : 128 ≤ bt s (i + 1) ∧ bt s (i + 1) ≤ 191
    · by_cases hc2 : 128 ≤ bt s (i + 2) ∧ bt s (i + 2) ≤ 191
      · have HD : Hid (dec s i = (bt s i % 16 * 4096 + bt s (i + 1) % 64 * 64 + bt s (i + 2) % 64, 3, true)) := by show _ = _; unfold dec; rw [if_neg hlo, if_neg (by omega), if_pos ⟨h1, h2⟩, if_pos (by omega)]
        have m0 : bits .and .u8 (bt s i) 15 = bt s i % 16 := u8_and15 _ (by omega) (by omega)
        have m1 : bits .and .u8 (bt s (i + 1)) 63 = bt s (i + 1) % 64 := u8_and63 _ (by omega) (by omega)
        have m2 : bits .and .u8 (bt s (i + 2)) 63 = bt s (i + 2) % 64 := u8_and63 _ (by omega) (by omega)
        have m3 : bits .or .i32 (bt s i % 16 * 4096) (bt s (i + 1) % 64 * 64) = bt s i % 16 * 4096 + bt s (i + 1) % 64 * 64 := i32_or12 _ _ (by omega) (by omega) (by omega) (by omega) (by omega)
        have m4 : bits .or .i32 (bt s i % 16 * 4096 + bt s (i + 1) % 64 * 64) (bt s (i + 2) % 64) = bt s i % 16 * 4096 + bt s (i + 1) % 64 * 64 + bt s (i + 2) % 64 := i32_or6 _ _ (by omega) (by omega) (by omega) (by omega) (by omega)
        clear hw0 hw1
        go_enter Tryf.func24, Tryf.ntmps24
        go_wp2_with (go_at_call 38; refine (zzCont_any _ _ _ _).mono ?_; rintro e w' ⟨rfl, rfl⟩)
        go_region
        go_wp2
        go_ret3
        exact ⟨(decV_eq HD.out).symm, 1, rfl⟩
      · have HD : Hid (dec s i = (0, 1, false)) := by show _ = _; unfold dec; rw [if_neg hlo, if_neg (by omega), if_pos ⟨h1, h2⟩, if_neg (by omega)]
        clear hw0 hw1
        go_enter Tryf.func24, Tryf.ntmps24
        go_wp2_with (go_at_call 38; refine (zzCont_any _ _ _ _).mono ?_; rintro e w' ⟨rfl, rfl⟩)
        go_ret3
        exact ⟨decV_no HD.out rfl, 0, rfl⟩
    · have HD : Hid (dec s i = (0, 1, false)) := by show _ = _; unfold dec; rw [if_neg hlo, if_neg (by omega), if_pos ⟨h1, h2⟩, if_neg (by omega)]
      clear hw0 hw1
      go_enter Tryf.func24, Tryf.ntmps24
      go_wp2_with (go_at_call 38; refine (zzCont_any _ _ _ _).mono ?_; rintro e w' ⟨rfl, rfl⟩)
      go_ret3
      exact ⟨decV_no HD.out rfl, 0, rfl⟩
  · have hfI : (s.size : Int) - (i : Int) < 3 := by omega
    have hc := bt_end s (show s.size ≤ i + 2 by omega)
    have HD : Hid (dec s i = (0, 1, false)) := by show _ = _; unfold dec; rw [if_neg hlo, if_neg (by omega), if_pos ⟨h1, h2⟩, if_neg (by omega)]
    clear hw0 hw1
    go_enter Tryf.func24, Tryf.ntmps24
    go_wp2_with (go_at_call 38; refine (zzCont_any _ _ _ _).mono ?_; rintro e w' ⟨rfl, rfl⟩)
    go_ret3
    exact ⟨decV_no HD.out rfl, 0, rfl⟩

set_option maxRecDepth 8000 in
set_option maxHeartbeats 4000000 in
theorem rune_f0 (s : ByteArray) (i : Nat) (w : World) (hs : s.size ≤ 4194304) (hi : i < s.size) (h1 : 240 ≤ bt s i) (h2 : bt s i ≤ 244) (q0 : (bt s i == 240) = true) (q1 : (bt s i == 244) = false) :
    Calls Tryf.prog 24 #[.string s, .int .i64 i] w fun r w' => r = decV s i ∧ ∃ n, w' = w.drewN n := by
  have hiI : (i : Int) < (s.size : Int) := by omega
  have hgb := get_bt s
  have hlo : ¬ bt s i < 128 := by omega
  have b0 : 194 ≤ bt s i := by omega
  have b1 : ¬ bt s i ≤ 223 := by omega
  have b2 : 224 ≤ bt s i := by omega
  have b3 : ¬ bt s i ≤ 239 := by omega
  have h0 := bt_nonneg s (i + 1)
  have h0' := bt_le s (i + 1)
  have g0 := bt_nonneg s (i + 2)
  have g0' := bt_le s (i + 2)
  have k0 := bt_nonneg s (i + 3)
  have k0' := bt_le s (i + 3)
  have hw0 : bt s i = 240 := by simpa using q0
  have hw1 : bt s i ≠ 244 := by simpa using q1
  by_cases hf : i + 3 < s.size
  · have hfI : ¬ (s.size : Int) - (i : Int) < 4 := by omega
    have e1 : ((i : Int) + 1).toNat = i + 1 := by omega
    have e2 : (i : Int) + 1 < (s.size : Int) := by omega
    have e3 : ((i : Int) + 2).toNat = i + 2 := by omega
    have e4 : (i : Int) + 2 < (s.size : Int) := by omega
    have e5 : ((i : Int) + 3).toNat = i + 3 := by omega
    have e6 : (i : Int) + 3 < (s.size : Int) := by omega
    by_cases hc : 144 ≤ bt s (i + 1) ∧ bt s (i + 1) ≤ 191
    · by_cases hc2 : 128 ≤ bt s (i + 2) ∧ bt s (i + 2) ≤ 191
      · by_cases hc3 : 128 ≤ bt s (i + 3) ∧ bt s (i + 3) ≤ 191
        · have HD : Hid (dec s i = (bt s i % 8 * 262144 + bt s (i + 1) % 64 * 4096 + bt s (i + 2) % 64 * 64 + bt s (i + 3) % 64, 4, true)) := by show _ = _; unfold dec; rw [if_neg hlo, if_neg (by omega), if_neg (by omega), if_pos ⟨h1, h2⟩, if_pos (by omega)]
          have m0 : bits .and .u8 (bt s i) 7 = bt s i % 8 := u8_and7 _ (by omega) (by omega)
          have m1 : bits .and .u8 (bt s (i + 1)) 63 = bt s (i + 1) % 64 := u8_and63 _ (by omega) (by omega)
          have m2 : bits .and .u8 (bt s (i + 2)) 63 = bt s (i + 2) % 64 := u8_and63 _ (by omega) (by omega)
          have m2' : bits .and .u8 (bt s (i + 3)) 63 = bt s (i + 3) % 64 := u8_and63 _ (by omega) (by omega)
          have m3 : bits .or .i32 (bt s i % 8 * 262144) (bt s (i + 1) % 64 * 4096) = bt s i % 8 * 262144 + bt s (i + 1) % 64 * 4096 := i32_or18 _ _ (by omega) (by omega) (by omega) (by omega) (by omega)
          have m4 : bits .or .i32 (bt s i % 8 * 262144 + bt s (i + 1) % 64 * 4096) (bt s (i + 2) % 64 * 64) = bt s i % 8 * 262144 + bt s (i + 1) % 64 * 4096 + bt s (i + 2) % 64 * 64 := i32_or12 _ _ (by omega) (by omega) (by omega) (by omega) (by omega)
          have m5 : bits .or .i32 (bt s i % 8 * 262144 + bt s (i + 1) % 64 * 4096 + bt s (i + 2) % 64 * 64) (bt s (i + 3) % 64) = bt s i % 8 * 262144 + bt s (i + 1) % 64 * 4096 + bt s (i + 2) % 64 * 64 + bt s (i + 3) % 64 := i32_or6 _ _ (by omega) (by omega) (by omega) (by omega) (by omega)
          clear hw0 hw1
          go_enter Tryf.func24, Tryf.ntmps24
          go_wp2_with (go_at_call 38; refine (zzCont_any _ _ _ _).mono ?_; rintro e w' ⟨rfl, rfl⟩)
          go_region
          go_wp2
          go_ret3
          exact ⟨(decV_eq HD.out).symm, 1, rfl⟩
        · have HD : Hid (dec s i = (0, 1, false)) := by show _ = _; unfold dec; rw [if_neg hlo, if_neg (by omega), if_neg (by omega), if_pos ⟨h1, h2⟩, if_neg (by omega)]
          clear hw0 hw1
          go_enter Tryf.func24, Tryf.ntmps24
          go_wp2_with (go_at_call 38; refine (zzCont_any _ _ _ _).mono ?_; rintro e w' ⟨rfl, rfl⟩)
          go_ret3
          exact ⟨decV_no HD.out rfl, 0, rfl⟩
      · have HD : Hid (dec s i = (0, 1, false)) := by show _ = _; unfold dec; rw [if_neg hlo, if_neg (by omega), if_neg (by omega), if_pos ⟨h1, h2⟩, if_neg (by omega)]
        clear hw0 hw1
        go_enter Tryf.func24, Tryf.ntmps24
        go_wp2_with (go_at_call 38; refine (zzCont_any _ _ _ _).mono ?_; rintro e w' ⟨rfl, rfl⟩)
        go_ret3
        exact ⟨decV_no HD.out rfl, 0, rfl⟩
    · have HD : Hid (dec s i = (0, 1, false)) := by show _ = _; unfold dec; rw [if_neg hlo, if_neg (by omega), if_neg (by omega), if_pos ⟨h1, h2⟩, if_neg (by omega)]
      clear hw0 hw1
      go_enter Tryf.func24, Tryf.ntmps24
      go_wp2_with (go_at_call 38; refine (zzCont_any _ _ _ _).mono ?_; rintro e w' ⟨rfl, rfl⟩)
      go_ret3
      exact ⟨decV_no HD.out rfl, 0, rfl⟩
  · have hfI : (s.size : Int) - (i : Int) < 4 := by omega
    have hc := bt_end s (show s.size ≤ i + 3 by omega)
    have HD : Hid (dec s i = (0, 1, false)) := by show _ = _; unfold dec; rw [if_neg hlo, if_neg (by omega), if_neg (by omega), if_pos ⟨h1, h2⟩, if_neg (by omega)]
    clear hw0 hw1
    go_enter Tryf.func24, Tryf.ntmps24
    go_wp2_with (go_at_call 38; refine (zzCont_any _ _ _ _).mono ?_; rintro e w' ⟨rfl, rfl⟩)
    go_ret3
    exact ⟨decV_no HD.out rfl, 0, rfl⟩

set_option maxRecDepth 8000 in
set_option maxHeartbeats 4000000 in
theorem rune_f4 (s : ByteArray) (i : Nat) (w : World) (hs : s.size ≤ 4194304) (hi : i < s.size) (h1 : 240 ≤ bt s i) (h2 : bt s i ≤ 244) (q0 : (bt s i == 240) = false) (q1 : (bt s i == 244) = true) :
    Calls Tryf.prog 24 #[.string s, .int .i64 i] w fun r w' => r = decV s i ∧ ∃ n, w' = w.drewN n := by
  have hiI : (i : Int) < (s.size : Int) := by omega
  have hgb := get_bt s
  have hlo : ¬ bt s i < 128 := by omega
  have b0 : 194 ≤ bt s i := by omega
  have b1 : ¬ bt s i ≤ 223 := by omega
  have b2 : 224 ≤ bt s i := by omega
  have b3 : ¬ bt s i ≤ 239 := by omega
  have h0 := bt_nonneg s (i + 1)
  have h0' := bt_le s (i + 1)
  have g0 := bt_nonneg s (i + 2)
  have g0' := bt_le s (i + 2)
  have k0 := bt_nonneg s (i + 3)
  have k0' := bt_le s (i + 3)
  have hw0 : bt s i ≠ 240 := by simpa using q0
  have hw1 : bt s i = 244 := by simpa using q1
  by_cases hf : i + 3 < s.size
  · have hfI : ¬ (s.size : Int) - (i : Int) < 4 := by omega
    have e1 : ((i : Int) + 1).toNat = i + 1 := by omega
    have e2 : (i : Int) + 1 < (s.size : Int) := by omega
    have e3 : ((i : Int) + 2).toNat = i + 2 := by omega
    have e4 : (i : Int) + 2 < (s.size : Int) := by omega
    have e5 : ((i : Int) + 3).toNat = i + 3 := by omega
    have e6 : (i : Int) + 3 < (s.size : Int) := by omega
    by_cases hc : 128 ≤ bt s (i + 1) ∧ bt s (i + 1) ≤ 143
    · by_cases hc2 : 128 ≤ bt s (i + 2) ∧ bt s (i + 2) ≤ 191
      · by_cases hc3 : 128 ≤ bt s (i + 3) ∧ bt s (i + 3) ≤ 191
        · have HD : Hid (dec s i = (bt s i % 8 * 262144 + bt s (i + 1) % 64 * 4096 + bt s (i + 2) % 64 * 64 + bt s (i + 3) % 64, 4, true)) := by show _ = _; unfold dec; rw [if_neg hlo, if_neg (by omega), if_neg (by omega), if_pos ⟨h1, h2⟩, if_pos (by omega)]
          have m0 : bits .and .u8 (bt s i) 7 = bt s i % 8 := u8_and7 _ (by omega) (by omega)
          have m1 : bits .and .u8 (bt s (i + 1)) 63 = bt s (i + 1) % 64 := u8_and63 _ (by omega) (by omega)
          have m2 : bits .and .u8 (bt s (i + 2)) 63 = bt s (i + 2) % 64 := u8_and63 _ (by omega) (by omega)
          have m2' : bits .and .u8 (bt s (i + 3)) 63 = bt s (i + 3) % 64 := u8_and63 _ (by omega) (by omega)
          have m3 : bits .or .i32 (bt s i % 8 * 262144) (bt s (i + 1) % 64 * 4096) = bt s i % 8 * 262144 + bt s (i + 1) % 64 * 4096 := i32_or18 _ _ (by omega) (by omega) (by omega) (by omega) (by omega)
          have m4 : bits .or .i32 (bt s i % 8 * 262144 + bt s (i + 1) % 64 * 4096) (bt s (i + 2) % 64 * 64) = bt s i % 8 * 262144 + bt s (i + 1) % 64 * 4096 + bt s (i + 2) % 64 * 64 := i32_or12 _ _ (by omega) (by omega) (by omega) (by omega) (by omega)
          have m5 : bits .or .i32 (bt s i % 8 * 262144 + bt s (i + 1) % 64 * 4096 + bt s (i + 2) % 64 * 64) (bt s (i + 3) % 64) = bt s i % 8 * 262144 + bt s (i + 1) % 64 * 4096 + bt s (i + 2) % 64 * 64 + bt s (i + 3) % 64 := i32_or6 _ _ (by omega) (by omega) (by omega) (by omega) (by omega)
          clear hw0 hw1
          go_enter Tryf.func24, Tryf.ntmps24
          go_wp2_with (go_at_call 38; refine (zzCont_any _ _ _ _).mono ?_; rintro e w' ⟨rfl, rfl⟩)
          go_region
          go_wp2
          go_ret3
          exact ⟨(decV_eq HD.out).symm, 1, rfl⟩
        · have HD : Hid (dec s i = (0, 1, false)) := by show _ = _; unfold dec; rw [if_neg hlo, if_neg (by omega), if_neg (by omega), if_pos ⟨h1, h2⟩, if_neg (by omega)]
          clear hw0 hw1
          go_enter Tryf.func24, Tryf.ntmps24
          go_wp2_with (go_at_call 38; refine (zzCont_any _ _ _ _).mono ?_; rintro e w' ⟨rfl, rfl⟩)
          go_ret3
          exact ⟨decV_no HD.out rfl, 0, rfl⟩
      · have HD : Hid (dec s i = (0, 1, false)) := by show _ = _; unfold dec; rw [if_neg hlo, if_neg (by omega), if_neg (by omega), if_pos ⟨h1, h2⟩, if_neg (by omega)]
        clear hw0 hw1
        go_enter Tryf.func24, Tryf.ntmps24
        go_wp2_with (go_at_call 38; refine (zzCont_any _ _ _ _).mono ?_; rintro e w' ⟨rfl, rfl⟩)
        go_ret3
        exact ⟨decV_no HD.out rfl, 0, rfl⟩
    · have HD : Hid (dec s i = (0, 1, false)) := by show _ = _; unfold dec; rw [if_neg hlo, if_neg (by omega), if_neg (by omega), if_pos ⟨h1, h2⟩, if_neg (by omega)]
      clear hw0 hw1
      go_enter Tryf.func24, Tryf.ntmps24
      go_wp2_with (go_at_call 38; refine (zzCont_any _ _ _ _).mono ?_; rintro e w' ⟨rfl, rfl⟩)
      go_ret3
      exact ⟨decV_no HD.out rfl, 0, rfl⟩
  · have hfI : (s.size : Int) - (i : Int) < 4 := by omega
    have hc := bt_end s (show s.size ≤ i + 3 by omega)
    have HD : Hid (dec s i = (0, 1, false)) := by show _ = _; unfold dec; rw [if_neg hlo, if_neg (by omega), if_neg (by omega), if_pos ⟨h1, h2⟩, if_neg (by omega)]
    clear hw0 hw1
    go_enter Tryf.func24, Tryf.ntmps24
    go_wp2_with (go_at_call 38; refine (zzCont_any _ _ _ _).mono ?_; rintro e w' ⟨rfl, rfl⟩)
    go_ret3
    exact ⟨decV_no HD.out rfl, 0, rfl⟩

set_option maxRecDepth 8000 in
set_option maxHeartbeats 4000000 in
theorem rune_f (s : ByteArray) (i : Nat) (w : World) (hs : s.size ≤ 4194304) (hi : i < s.size) (h1 : 240 ≤ bt s i) (h2 : bt s i ≤ 244) (q0 : (bt s i == 240) = false) (q1 : (bt s i == 244) = false) :
    Calls Tryf.prog 24 #[.string s, .int .i64 i] w fun r w' => r = decV s i ∧ ∃ n, w' = w.drewN n := by
  have hiI : (i : Int) < (s.size : Int) := by omega
  have hgb := get_bt s
  have hlo : ¬ bt s i < 128 := by omega
  have b0 : 194 ≤ bt s i := by omega
  have b1 : ¬ bt s i ≤ 223 := by omega
  have b2 : 224 ≤ bt s i := by omega
  have b3 : ¬ bt s i ≤ 239 := by omega
  have h0 := bt_nonneg s (i + 1)
  have h0' := bt_le s (i + 1)
  have g0 := bt_nonneg s (i + 2)
  have g0' := bt_le s (i + 2)
  have k0 := bt_nonneg s (i + 3)
  have k0' := bt_le s (i + 3)
  have hw0 : bt s i ≠ 240 := by simpa using q0
  have hw1 : bt s i ≠ 244 := by simpa using q1
  by_cases hf : i + 3 < s.size
  · have hfI : ¬ (s.size : Int) - (i : Int) < 4 := by omega
    have e1 : ((i : Int) + 1).toNat = i + 1 := by omega
    have e2 : (i : Int) + 1 < (s.size : Int) := by omega
    have e3 : ((i : Int) + 2).toNat = i + 2 := by omega
    have e4 : (i : Int) + 2 < (s.size : Int) := by omega
    have e5 : ((i : Int) + 3).toNat = i + 3 := by omega
    have e6 : (i : Int) + 3 < (s.size : Int) := by omega
    by_cases hc : 128 ≤ bt s (i + 1) ∧ bt s (i + 1) ≤ 191
    · by_cases hc2 : 128 ≤ bt s (i + 2) ∧ bt s (i + 2) ≤ 191
      · by_cases hc3 : 128 ≤ bt s (i + 3) ∧ bt s (i + 3) ≤ 191
        · have HD : Hid (dec s i = (bt s i % 8 * 262144 + bt s (i + 1) % 64 * 4096 + bt s (i + 2) % 64 * 64 + bt s (i + 3) % 64, 4, true)) := by show _ = _; unfold dec; rw [if_neg hlo, if_neg (by omega), if_neg (by omega), if_pos ⟨h1, h2⟩, if_pos (by omega)]
          have m0 : bits .and .u8 (bt s i) 7 = bt s i % 8 := u8_and7 _ (by omega) (by omega)
          have m1 : bits .and .u8 (bt s (i + 1)) 63 = bt s (i + 1) % 64 := u8_and63 _ (by omega) (by omega)
          have m2 : bits .and .u8 (bt s (i + 2)) 63 = bt s (i + 2) % 64 := u8_and63 _ (by omega) (by omega)
          have m2' : bits .and .u8 (bt s (i + 3)) 63 = bt s (i + 3) % 64 := u8_and63 _ (by omega) (by omega)
          have m3 : bits .or .i32 (bt s i % 8 * 262144) (bt s (i + 1) % 64 * 4096) = bt s i % 8 * 262144 + bt s (i + 1) % 64 * 4096 := i32_or18 _ _ (by omega) (by omega) (by omega) (by omega) (by omega)
          have m4 : bits .or .i32 (bt s i % 8 * 262144 + bt s (i + 1) % 64 * 4096) (bt s (i + 2) % 64 * 64) = bt s i % 8 * 262144 + bt s (i + 1) % 64 * 4096 + bt s (i + 2) % 64 * 64 := i32_or12 _ _ (by omega) (by omega) (by omega) (by omega) (by omega)
          have m5 : bits .or .i32 (bt s i % 8 * 262144 + bt s (i + 1) % 64 * 4096 + bt s (i + 2) % 64 * 64) (bt s (i + 3) % 64) = bt s i % 8 * 262144 + bt s (i + 1) % 64 * 4096 + bt s (i + 2) % 64 * 64 + bt s (i + 3) % 64 := i32_or6 _ _ (by omega) (by omega) (by omega) (by omega) (by omega)
          clear hw0 hw1
          go_enter Tryf.func24, Tryf.ntmps24
          go_wp2_with (go_at_call 38; refine (zzCont_any _ _ _ _).mono ?_; rintro e w' ⟨rfl, rfl⟩)
          go_region
          go_wp2
          go_ret3
          exact ⟨(decV_eq HD.out).symm, 1, rfl⟩
        · have HD : Hid (dec s i = (0, 1, false)) := by show _ = _; unfold dec; rw [if_neg hlo, if_neg (by omega), if_neg (by omega), if_pos ⟨h1, h2⟩, if_neg (by omega)]
          clear hw0 hw1
          go_enter Tryf.func24, Tryf.ntmps24
          go_wp2_with (go_at_call 38; refine (zzCont_any _ _ _ _).mono ?_; rintro e w' ⟨rfl, rfl⟩)
          go_ret3
          exact ⟨decV_no HD.out rfl, 0, rfl⟩
      · have HD : Hid (dec s i = (0, 1, false)) := by show _ = _; unfold dec; rw [if_neg hlo, if_neg (by omega), if_neg (by omega), if_pos ⟨h1, h2⟩, if_neg (by omega)]
        clear hw0 hw1
        go_enter Tryf.func24, Tryf.ntmps24
        go_wp2_with (go_at_call 38; refine (zzCont_any _ _ _ _).mono ?_; rintro e w' ⟨rfl, rfl⟩)
        go_ret3
        exact ⟨decV_no HD.out rfl, 0, rfl⟩
    · have HD : Hid (dec s i = (0, 1, false)) := by show _ = _; unfold dec; rw [if_neg hlo, if_neg (by omega), if_neg (by omega), if_pos ⟨h1, h2⟩, if_neg (by omega)]
      clear hw0 hw1
      go_enter Tryf.func24, Tryf.ntmps24
      go_wp2_with (go_at_call 38; refine (zzCont_any _ _ _ _).mono ?_; rintro e w' ⟨rfl, rfl⟩)
      go_ret3
      exact ⟨decV_no HD.out rfl, 0, rfl⟩
  · have hfI : (s.size : Int) - (i : Int) < 4 := by omega
    have hc := bt_end s (show s.size ≤ i + 3 by omega)
    have HD : Hid (dec s i = (0, 1, false)) := by show _ = _; unfold dec; rw [if_neg hlo, if_neg (by omega), if_neg (by omega), if_pos ⟨h1, h2⟩, if_neg (by omega)]
    clear hw0 hw1
    go_enter Tryf.func24, Tryf.ntmps24
    go_wp2_with (go_at_call 38; refine (zzCont_any _ _ _ _).mono ?_; rintro e w' ⟨rfl, rfl⟩)
    go_ret3
    exact ⟨decV_no HD.out rfl, 0, rfl⟩

theorem zzDecodeRune_any (s : ByteArray) (i : Nat) (w : World) (hs : s.size ≤ 4194304) (hi : i < s.size) :
    Calls Tryf.prog 24 #[.string s, .int .i64 i] w fun r w' => r = decV s i ∧ ∃ n, w' = w.drewN n := by
  by_cases a : bt s i < 128
  · exact rune_one s i w hs hi a
  · by_cases b : bt s i < 194 ∨ 244 < bt s i
    · exact rune_none s i w hs hi (by omega) b
    · by_cases c : bt s i ≤ 223
      · exact rune_two s i w hs hi (by omega) c
      · by_cases d : bt s i ≤ 239
        · by_cases e : bt s i = 224
          · exact rune_e0 s i w hs hi (by omega) d (by simpa using e) (by simp; omega)
          · by_cases f : bt s i = 237
            · exact rune_ed s i w hs hi (by omega) d (by simpa using e) (by simpa using f)
            · exact rune_e s i w hs hi (by omega) d (by simpa using e) (by simpa using f)
        · by_cases e : bt s i = 240
          · exact rune_f0 s i w hs hi (by omega) (by omega) (by simpa using e) (by simp; omega)
          · by_cases f : bt s i = 244
            · exact rune_f4 s i w hs hi (by omega) (by omega) (by simpa using e) (by simpa using f)
            · exact rune_f s i w hs hi (by omega) (by omega) (by simpa using e) (by simpa using f)
end Go.Proofs.Qxb6606017aFmt
