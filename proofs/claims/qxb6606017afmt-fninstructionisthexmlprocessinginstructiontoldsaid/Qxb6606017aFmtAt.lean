import Derived.Test.Qxb6606017aFmtInstr
import Derived.Test.Qxb6606017aFmtZzB
namespace Go.Proofs.Qxb6606017aFmt
open Go.RowKit Go.PlainAid
open Go.Extern.Stop Go.Stop Go.Extern

/-- The line that ZZinstructionAt tells. -/
def lnOf (s : ByteArray) (o : Nat × Bool) : Nat := if o.2 then 0 else lineAt s o.1

theorem assert_nil (w : World) : (Instr.typeAssert .nilIface 43 51 true).run Tryf.prog w = .ok (.tuple #[.pointer none, .bool false]) w := by kernel_rfl
theorem assert_yes (v : Value) (w : World) : (Instr.typeAssert (.iface 51 v) 43 51 true).run Tryf.prog w = .ok (.tuple #[v, .bool true]) w := by kernel_rfl
set_option maxRecDepth 8000 in
set_option maxHeartbeats 2000000 in
theorem zzInstructionAt_any (s : ByteArray) (a e1 e2 : Nat) (y : Int) (m : Int) (w : World) (hs : s.size ≤ 4194304) (ha : a + 2 ≤ s.size) (hT : Lib.Utf8Tabs 0 1 w) (hA : Folds w) (hm : w.cell? ⟨5, 0, none⟩ = some (.int .i64 m))
    (hE1 : Stops (nstep s (a + 2)) s.size (a + 2) e1) (hae : a + 2 ≤ e1) (hes : e1 ≤ s.size) (hy : Lib.index (s.extract e1 s.size).data.toList [63, 62] = y) (hym : -1 ≤ y) (hyl : 0 ≤ y → (e1 : Int) + y + 2 ≤ s.size)
    (hE2 : 0 ≤ y → Stops (cstep (s.extract e1 (e1 + y.toNat))) y.toNat 0 e2 ∧ e2 ≤ y.toNat) (o : Nat × Bool) (ho : insOut (nmOK (s.extract (a + 2) e1).data.toList) (xmlB (s.extract (a + 2) e1)) y (isSp (bt s e1)) e1 e2 = o) :
    Calls Tryf.prog 9 #[.string s, .int .i64 a] w fun r w' => Below w.heap.size w w' ∧ r = .returned (.tuple #[.int .i64 o.1, .bool o.2, .int .i64 (lnOf s o)]) := by
  have h6 : 6 ≤ w.heap.size := by
    rcases Nat.lt_or_ge 5 w.heap.size with h | h
    · omega
    · simp [World.cell?, Array.getElem?_eq_none h] at hm
  have HE1 : Hid (Stops (nstep s (a + 2)) s.size (a + 2) e1) := hE1
  have HE2 : Hid (0 ≤ y → Stops (cstep (s.extract e1 (e1 + y.toNat))) y.toNat 0 e2 ∧ e2 ≤ y.toNat) := hE2
  have HY : Hid (Lib.index (s.extract e1 s.size).data.toList [63, 62] = y) := hy
  have HYL : Hid (0 ≤ y → (e1 : Int) + y + 2 ≤ s.size) := hyl
  have HT : Hid (Lib.Utf8Tabs 0 1 w) := hT
  have HA : Hid (Folds w) := hA
  have HO : Hid (insOut (nmOK (s.extract (a + 2) e1).data.toList) (xmlB (s.extract (a + 2) e1)) y (isSp (bt s e1)) e1 e2 = o) := ho
  clear hE1 hE2 hy hyl hT hA ho
  go_enter Tryf.func9, Tryf.ntmps9
  go_wp2_with fail
  obtain ⟨W, hW⟩ : ∃ W, W = (w.alloc (.cells #[.slice none 0 0, .slice none 0 0] 49)) := ⟨_, rfl⟩
  have hWs : W.heap.size = w.heap.size + 1 := by rw [hW]; simp
  have hWB : Below w.heap.size w W := by rw [hW]; exact (Below.refl _ _).alloc (Nat.le_refl _) _
  have hWm : W.cell? ⟨5, 0, none⟩ = some (.int .i64 m) := by rw [hWB.cell (p := ⟨5, 0, none⟩) (by show 5 < w.heap.size; omega)]; exact hm
  rw [← hW, ← hWs]
  have hB1 : ∀ o, Below w.heap.size w (W.alloc o) := fun o => hWB.alloc (by omega) o
  have HB1 : Hid (∀ o, Below w.heap.size w (W.alloc o)) := hB1
  refine (instruction_any W.heap.size s a e1 e2 y m _ ⟨?_, ?_, ?_, ?_⟩ hs ha ?_ ?_ ?_ (by omega) HE1.out hae hes HY.out hym HYL.out HE2.out).mono ?_
  · simp
  · simp
  · simp
  · simp
  · exact tabs_below w.heap.size (by omega) (hB1 _) HT.out
  · exact folds_below w.heap.size (by omega) (hB1 _) HA.out
  · rw [World.cell?_alloc_lt _ _ _ (by show 5 < W.heap.size; omega)]; exact hWm
  rw [HO.out]
  rintro r w1 ⟨hB2, ⟨q0, q1, q2, q3⟩, hr⟩
  have hB : Below w.heap.size w w1 := (hB1 _).trans (hB2.mono (by omega))
  have HB : Hid (Below w.heap.size w w1) := hB
  clear hB hB2 hB1 HB1 hWB hWm hW hWs HE1 HE2 HY HYL HT HA HO
  obtain ⟨p, ok⟩ := o
  dsimp only at *
  rcases hr with ⟨rfl, rfl⟩ | ⟨rfl, q, rfl, hq, hbq⟩
  · have ha1 := assert_nil w1
    go_wp2_with fail
    go_region_held3 (fun w' => w'.cell? ⟨W.heap.size, 1, none⟩ = some (.int .i64 p)) (go_keep) (fail)
    go_wp2
    go_ret3
    exact ⟨HB.out.drew, rfl⟩
  · have ha1 := assert_yes (.pointer (some ⟨q, 0, none⟩)) w1
    go_wp2_with fail
    go_region_held3 (fun w' => w'.cell? ⟨W.heap.size, 1, none⟩ = some (.int .i64 p)) (go_keep) (fail)
    go_wp2
    go_ret3
    exact ⟨HB.out.drew, rfl⟩
end Go.Proofs.Qxb6606017aFmt
