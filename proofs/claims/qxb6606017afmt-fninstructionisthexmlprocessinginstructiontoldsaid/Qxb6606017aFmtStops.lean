import Derived.Test.Qxb6606017aFmtShelf
import Derived.WalkKit
import Derived.Stop.CallBack
import Derived.Stop.IfaceNil
namespace Go.Proofs.Qxb6606017aFmt
open Go.RowKit
open Go.Extern.Stop Go.Stop Go.Extern

theorem nextTurns : Extern.next FmtCalls.turnsRow = some (FmtCalls.begun #[] #[]) := by kernel_rfl
theorem call42 (args : Array Value) (w : World) : (callFunc 42 args).run Tryf.prog w = (FmtCalls.sprintf #[9, 69] #[9] args).run Tryf.prog w :=
  run_callFunc_next Tryf.func42 (by kernel_rfl) (by kernel_rfl) (by kernel_rfl) args w
theorem guardF (name : String) (w : World) : (FmtStop.guard name).run Tryf.prog w = .ok () w := by kernel_rfl

theorem fin0 (a : Value) (f : ByteArray) (acc : List (List UInt8)) (w : World) : ∃ t : ByteArray, (FmtCalls.finish 0 a f acc 0).run Tryf.prog w = .ok (.value (.string t)) w.drew := by
  apply Exists.intro
  simp only [FmtCalls.finish, Sem.run_bind, run_choose_drew]
  simp [Question.forced]
  rfl

theorem rows_none (f : ByteArray) (a : Value) (w : World) (R : Value → World → Prop) (h : ∀ t : ByteArray, R (.string t) w.drew) :
    Rows Tryf.prog FmtCalls.turnsRow (FmtCalls.save 0 0 a f [] []) w R := by
  obtain ⟨t, ht⟩ := fin0 a f [] w
  refine rows_value nextTurns ?_ (h t)
  rw [FmtCalls.run_begun_save]
  simp only [FmtCalls.turns]
  exact ht
theorem act9 (s : ByteArray) (w : World) : (FmtCalls.act "fmt.Sprintf" false 115 false (.iface 9 (.string s))).run Tryf.prog w = .ok (.closed false) w := by kernel_rfl
theorem op9 (s : ByteArray) (w : World) : ∃ x, (FmtStop.operand "fmt.Sprintf" false 115 false (.iface 9 (.string s))).run Tryf.prog w = .ok x w := ⟨([12, 6, 0, 0, 0, 0, 0, 0, 0, 115, 116, 114, 105, 110, 103], FmtStop.pack s.data.toList), by kernel_rfl⟩
theorem act5 (c : Int) (w : World) : (FmtCalls.act "fmt.Sprintf" false 120 true (.iface 5 (.int .u8 c))).run Tryf.prog w = .ok (.closed false) w := by kernel_rfl
theorem op5 (c : Int) (w : World) : ∃ x, (FmtStop.operand "fmt.Sprintf" false 120 true (.iface 5 (.int .u8 c))).run Tryf.prog w = .ok x w := ⟨([6, 5, 0, 0, 0, 0, 0, 0, 0, 117, 105, 110, 116, 56], Go.Extern.Stop.digits 8 (c % 2 ^ 64).toNat), by kernel_rfl⟩
theorem rows_one (f : ByteArray) (ad : Addr) (cap : Nat) (v : Value) (verb : UInt8) (sharp : Bool) (w : World) (R : Value → World → Prop)
    (hc : w.cell? ad = some v)
    (ha : ∀ w, (FmtCalls.act "fmt.Sprintf" false verb sharp v).run Tryf.prog w = .ok (.closed false) w) (ho : ∀ w, ∃ x, (FmtStop.operand "fmt.Sprintf" false verb sharp v).run Tryf.prog w = .ok x w)
    (h : ∀ t : ByteArray, R (.string t) w.drew) :
    Rows Tryf.prog FmtCalls.turnsRow (FmtCalls.save 0 0 (.slice (some ad) 1 cap) f [] [(0, verb, sharp)]) w R := by
  obtain ⟨x, hx⟩ := ho w
  obtain ⟨t, ht⟩ := fin0 (.slice (some ad) 1 cap) f [x.1, x.2] w
  refine rows_value nextTurns ?_ (h t)
  rw [FmtCalls.run_begun_save]
  have hl : (FmtDoors.operand (.slice (some ad) 1 cap) 0).run Tryf.prog w = .ok v w := by
    simp [FmtDoors.operand, Addr.add, hc, go_sem]
  have e0 : FmtCalls.frontName 0 = "fmt.Sprintf" := rfl
  have e1 : ((0 : Nat) == 3) = false := rfl
  simp only [FmtCalls.turns, Sem.run_bind, hl, Result.andThen, e0, e1, ha, hx]
  exact ht
end Go.Proofs.Qxb6606017aFmt
