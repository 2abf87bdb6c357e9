import Derived.Test.Qxb6606017aFmtStops
import Derived.Test.Qxb6606017aFmtPlain
import Derived.WalkSpells
import Derived.WalkLawsBesides
import Derived.Handy
import Derived.Deep.RegionHeld3
namespace Go.Proofs.Qxb6606017aFmt
open Go.RowKit Go.PlainAid
open Go.Extern.Stop Go.Stop Go.Extern

/-- The line of place k: 1 and the line feeds before it. -/
def lineAt (s : ByteArray) (k : Nat) : Nat := 1 + Lib.countByte (s.data.toList.take k) 10
theorem lineAt_le (s : ByteArray) (k : Nat) : lineAt s k ≤ s.size + 1 := by
  unfold lineAt Lib.countByte
  have h1 := List.count_le_length (a := (10 : UInt8)) (l := s.data.toList.take k)
  have h2 := List.length_take_le k s.data.toList
  have h3 : (s.data.toList.take k).length ≤ s.data.toList.length := by simp; omega
  have h4 : s.data.toList.length = s.size := (Lib.size_eq s).symm
  omega

set_option maxHeartbeats 1000000 in
theorem fail_gen (b : Nat) (s : ByteArray) (k : Nat) (f : ByteArray) (p : Option Addr) (n cap : Nat) (ps : List (Nat × UInt8 × Bool)) (w : World) (h0 : w.cell? ⟨b, 0, none⟩ = some (.string s)) (h1 : w.cell? ⟨b, 1, none⟩ = some (.int .i64 k)) (hk : k ≤ s.size) (hs : s.size ≤ 4194304)
    (hp : FmtStop.printed? f n = some ps)
    (hr : Hid (∀ R : Value → World → Prop, (∀ t : ByteArray, R (.string t) w.drew.drew) → Rows Tryf.prog FmtCalls.turnsRow (FmtCalls.save 0 0 (.slice p n cap) f [] ps) w.drew R)) :
    Calls Tryf.prog 30 #[.pointer (some ⟨b, 0, none⟩), .string f, .slice p n cap] w fun e w' =>
      ∃ t, e = .returned (.iface 51 (.pointer (some ⟨w.heap.size, 0, none⟩))) ∧ w' = (w.alloc (.cells #[.int .i64 (lineAt s k), .string t] 54)).drew.drew := by
  have c42 := call42
  have gF := guardF
  have hk' : (k : Int) ≤ (s.size : Int) := by omega
  have hl := lineAt_le s k
  have he : (1 + (Lib.countByte (List.take k s.data.toList) 10 : Int)) = (lineAt s k : Int) := by unfold lineAt; omega
  have he2 : IntKind.i64.wrap (lineAt s k : Int) = (lineAt s k : Int) := IntWalk.i64_in _ ⟨by omega, by omega⟩
  go_enter Tryf.func30, Tryf.ntmps30
  go_wp2
  go_region_held3 (fun w' => w'.cell? ⟨b, 0, none⟩ = some (.string s) ∧ w'.cell? ⟨b, 1, none⟩ = some (.int .i64 k)) (go_keep)
    (first | (go_at_call 41; refine (Tryf.strings_Count_one _ _ _).mono ?_; rintro e w' ⟨rfl, rfl⟩) | (refine hr.out _ ?_; intro t))
  go_wp2
  go_ret
  exact ⟨t, rfl, rfl⟩

/-- No operand. -/
theorem fail_none (b : Nat) (s : ByteArray) (k : Nat) (f : ByteArray) (w : World) (h0 : w.cell? ⟨b, 0, none⟩ = some (.string s)) (h1 : w.cell? ⟨b, 1, none⟩ = some (.int .i64 k)) (hk : k ≤ s.size) (hs : s.size ≤ 4194304)
    (hp : FmtStop.printed? f 0 = some []) :
    Calls Tryf.prog 30 #[.pointer (some ⟨b, 0, none⟩), .string f, .slice none 0 0] w fun e w' =>
      ∃ t, e = .returned (.iface 51 (.pointer (some ⟨w.heap.size, 0, none⟩))) ∧ w' = (w.alloc (.cells #[.int .i64 (lineAt s k), .string t] 54)).drew.drew :=
  fail_gen b s k f none 0 0 [] w h0 h1 hk hs hp (fun _ h => rows_none f _ _ _ h)

/-- One operand, a string, under '%s'. -/
theorem fail_str (b : Nat) (s : ByteArray) (k : Nat) (f x : ByteArray) (ad : Addr) (cap : Nat) (w : World) (h0 : w.cell? ⟨b, 0, none⟩ = some (.string s)) (h1 : w.cell? ⟨b, 1, none⟩ = some (.int .i64 k)) (hk : k ≤ s.size) (hs : s.size ≤ 4194304)
    (hp : FmtStop.printed? f 1 = some [(0, 115, false)]) (hc : w.cell? ad = some (.iface 9 (.string x))) :
    Calls Tryf.prog 30 #[.pointer (some ⟨b, 0, none⟩), .string f, .slice (some ad) 1 cap] w fun e w' =>
      ∃ t, e = .returned (.iface 51 (.pointer (some ⟨w.heap.size, 0, none⟩))) ∧ w' = (w.alloc (.cells #[.int .i64 (lineAt s k), .string t] 54)).drew.drew :=
  fail_gen b s k f (some ad) 1 cap _ w h0 h1 hk hs hp (fun _ h => rows_one f ad cap _ 115 false _ _ hc (act9 x) (op9 x) h)

/-- One operand, a byte, under '%#02x'. -/
theorem fail_byte (b : Nat) (s : ByteArray) (k : Nat) (f : ByteArray) (c : Int) (ad : Addr) (cap : Nat) (w : World) (h0 : w.cell? ⟨b, 0, none⟩ = some (.string s)) (h1 : w.cell? ⟨b, 1, none⟩ = some (.int .i64 k)) (hk : k ≤ s.size) (hs : s.size ≤ 4194304)
    (hp : FmtStop.printed? f 1 = some [(0, 120, true)]) (hc : w.cell? ad = some (.iface 5 (.int .u8 c))) :
    Calls Tryf.prog 30 #[.pointer (some ⟨b, 0, none⟩), .string f, .slice (some ad) 1 cap] w fun e w' =>
      ∃ t, e = .returned (.iface 51 (.pointer (some ⟨w.heap.size, 0, none⟩))) ∧ w' = (w.alloc (.cells #[.int .i64 (lineAt s k), .string t] 54)).drew.drew :=
  fail_gen b s k f (some ad) 1 cap _ w h0 h1 hk hs hp (fun _ h => rows_one f ad cap _ 120 true _ _ hc (act5 c) (op5 c) h)
end Go.Proofs.Qxb6606017aFmt
