import Derived.Test.Qxb6606017aFmtProg
import Derived.WalkKit
import Derived.WalkSpells
import Derived.WalkLawsBesides
import Derived.Handy
import Derived.Deep.Light
import Derived.Test.Qxb6606017aFmtPlain
namespace Go.Proofs.Qxb6606017aFmt
open Go.RowKit Go.PlainAid

theorem ret_bool {a b : Bool} (h : a = b) : Ending.returned (.bool a) = .returned (.bool b) := by rw [h]

set_option maxHeartbeats 400000 in
theorem isASCIINameChar_any (c : Int) (w : World) :
    Calls Tryf.prog 18 #[.int .u8 c] w fun e w' => e = .returned (.bool (ascNm c)) ∧ w' = w := by
  go_enter Tryf.func18, Tryf.ntmps18
  go_wp2
  all_goals
    go_ret
    exact ⟨ret_bool (by rw [Bool.eq_iff_iff]; simp [ascNm]; try omega), rfl⟩

set_option maxHeartbeats 400000 in
theorem zzIsASCIINameChar_any (c : Int) (w : World) :
    Calls Tryf.prog 7 #[.int .u8 c] w fun e w' => e = .returned (.bool (ascNm c)) ∧ w' = w := by
  go_enter Tryf.func7, Tryf.ntmps7
  go_wp2_with (go_at_call 18; refine (isASCIINameChar_any _ _).mono ?_; rintro e w' ⟨rfl, rfl⟩)
  go_ret
  exact ⟨rfl, rfl⟩

set_option maxHeartbeats 1000000 in
theorem isNameStartChar_any (r : Int) (w : World) :
    Calls Tryf.prog 28 #[.int .i32 r] w fun e w' => e = .returned (.bool (nmStart r)) ∧ w' = w := by
  go_enter Tryf.func28, Tryf.ntmps28
  go_wp2
  all_goals
    go_ret
    exact ⟨ret_bool (by rw [Bool.eq_iff_iff]; simp [nmStart]; try omega), rfl⟩

set_option maxHeartbeats 1000000 in
theorem isNameChar_any (r : Int) (w : World) :
    Calls Tryf.prog 27 #[.int .i32 r] w fun e w' => e = .returned (.bool (nmChar r)) ∧ w' = w := by
  go_enter Tryf.func27, Tryf.ntmps27
  go_wp2_with (go_at_call 28; refine (isNameStartChar_any _ _).mono ?_; rintro e w' ⟨rfl, rfl⟩)
  all_goals
    go_ret
    exact ⟨ret_bool (by rw [Bool.eq_iff_iff]; simp [nmChar, *]; try omega), rfl⟩

set_option maxHeartbeats 1000000 in
theorem isSpace_any (r : Int) (w : World) :
    Calls Tryf.prog 34 #[.int .u8 r] w fun e w' => e = .returned (.bool (isSp r)) ∧ w' = w := by
  go_enter Tryf.func34, Tryf.ntmps34
  go_wp2
  all_goals
    go_ret
    exact ⟨ret_bool (by rw [Bool.eq_iff_iff]; simp [isSp, *]; try omega), rfl⟩

set_option maxHeartbeats 1000000 in
theorem zzIsSpaceByte_any (r : Int) (w : World) :
    Calls Tryf.prog 22 #[.int .u8 r] w fun e w' => e = .returned (.bool (isSp r)) ∧ w' = w := by
  go_enter Tryf.func22, Tryf.ntmps22
  go_wp2
  all_goals
    go_ret
    exact ⟨ret_bool (by rw [Bool.eq_iff_iff]; simp [isSp, *]; try omega), rfl⟩

set_option maxHeartbeats 1000000 in
theorem isChar_any (r : Int) (w : World) :
    Calls Tryf.prog 48 #[.int .i32 r] w fun e w' => e = .returned (.bool (isCh r)) ∧ w' = w := by
  go_enter Tryf.func48, Tryf.ntmps48
  go_wp2
  all_goals
    go_ret
    exact ⟨ret_bool (by rw [Bool.eq_iff_iff]; simp [isCh]; first | omega | (go_light; simp_all; try omega)), rfl⟩

set_option maxHeartbeats 1000000 in
theorem zzIsXMLChar_any (r : Int) (w : World) :
    Calls Tryf.prog 25 #[.int .i32 r] w fun e w' => e = .returned (.bool (xAny r)) ∧ w' = w := by
  go_enter Tryf.func25, Tryf.ntmps25
  go_wp2
  all_goals
    go_ret
    exact ⟨ret_bool (by rw [Bool.eq_iff_iff]; simp [xAny, *]; try omega), rfl⟩

set_option maxHeartbeats 1000000 in
theorem zzCont_any (b lo hi : Int) (w : World) :
    Calls Tryf.prog 38 #[.int .u8 b, .int .u8 lo, .int .u8 hi] w fun e w' => e = .returned (.bool (decide (lo ≤ b ∧ b ≤ hi))) ∧ w' = w := by
  go_enter Tryf.func38, Tryf.ntmps38
  go_wp2
  all_goals
    go_ret
    exact ⟨ret_bool (by rw [Bool.eq_iff_iff]; simp [*]; try omega), rfl⟩
end Go.Proofs.Qxb6606017aFmt
