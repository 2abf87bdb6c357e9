import Derived.Test.Qxb6606142aDoorQuote
namespace Go.Proofs.Qxb6606142aDoor
open Go.RowKit Go.PlainAid

/-- A slice of strings that is only read. -/
def Arg (v : Value) (xs : List ByteArray) (w : World) : Prop :=
  (xs = [] ∧ ∃ ao cap, v = .slice ao 0 cap ∧ (ao = none → cap = 0)) ∨
  (xs ≠ [] ∧ ∃ b o cap, v = .slice (some ⟨b, o, none⟩) xs.length cap ∧ ∀ i (h : i < xs.length), w.cell? ⟨b, o + i, none⟩ = some (.string xs[i]))
theorem Arg.below {v : Value} {xs : List ByteArray} {w w' : World} (h : Arg v xs w) (hb : Below w.heap.size w w') : Arg v xs w' := by
  rcases h with h | ⟨h1, b, o, cap, h2, h3⟩
  · exact Or.inl h
  · exact Or.inr ⟨h1, b, o, cap, h2, fun i hi => (hb.cell (p := ⟨b, o + i, none⟩) (World.block_lt_of_cell? w _ (h3 i hi))).trans (h3 i hi)⟩

theorem made_string (n : Nat) (w : World) (hn : n ≤ 1048576) : ∃ C : Array Value, (Instr.makeSlice 22 (.int .i64 n) (.int .i64 n)).run Tryd.prog w = .ok (.slice (some ⟨w.heap.size, 0, none⟩) n n) (w.alloc (.cells C 9)) ∧ ∀ j, j < n → C[j]? = some (.string ⟨#[]⟩) := by
  obtain ⟨i, hi, hz, h1, h2⟩ := info9
  have hr := run_make (P := Tryd.prog) w 22 9 i (.string ⟨#[]⟩) Tryd.underlying22 hi hz .i64 .i64 n n (by omega) (by omega) (by rw [h2]; omega) (by omega)
  refine ⟨madeCells (Value.string ⟨#[]⟩).cells (n * i.size), by simpa using hr, fun j hj => ?_⟩
  rw [h1, Nat.mul_one]
  unfold madeCells
  rw [Array.getElem?_map, Array.getElem?_range, if_pos hj, Option.map_some]
  have : j % (Value.string ⟨#[]⟩).cells.size = 0 := by
    show j % 1 = 0
    omega
  rw [this]
  rfl

/-- What the copy holds after i rounds. -/
structure Half (g n i : Nat) (xs : List ByteArray) (w wr : World) : Prop where
  cell : ∀ j, j < n → ∃ s, wr.cell? ⟨g, j, none⟩ = some (.string s) ∧ (j < i → xs[j]? = some s)
  free : ∀ j, wr.frozen? ⟨g, j, none⟩ = false
  low : Below g w wr
theorem Half.put {g n i : Nat} {xs : List ByteArray} {w wr : World} (h : Half g n i xs w wr) (hi : i < n) (x : ByteArray) (hx : xs[i]? = some x) : Half g n (i + 1) xs w (wr.setCell ⟨g, i, none⟩ (.string x)) := by
  refine ⟨fun j hj => ?_, fun j => ?_, h.low.setCell (p := ⟨g, i, none⟩) (Nat.le_refl _) _⟩
  · by_cases hji : i = j
    · subst hji
      obtain ⟨s, hs, _⟩ := h.cell i hi
      exact ⟨x, World.cell?_setCell_same _ _ _ hs, fun _ => hx⟩
    · obtain ⟨s, hs, hq⟩ := h.cell j hj
      refine ⟨s, (World.cell?_setCell_other _ _ _ _ (fun e => hji (by cases e; rfl))).trans hs, fun h' => hq (by omega)⟩
  · rw [World.frozen?_setCell]; exact h.free j

set_option maxRecDepth 8000 in
set_option maxHeartbeats 4000000 in
theorem clone_any (v : Value) (xs : List ByteArray) (w : World) (h : Arg v xs w) (hn : xs.length ≤ 1048576) :
    Calls Tryd.prog 7 #[v] w fun r w' => ∃ v', r = .returned v' ∧ Arg v' xs w' ∧ Below w.heap.size w w' := by
  rcases h with ⟨rfl, ao, cap, rfl, hcap⟩ | ⟨hne, b, o, cap, rfl, hcell⟩
  · cases ao with
    | none =>
      obtain rfl := hcap rfl
      have e1 := fun w => Lib.run_eql_slice_nil (P := Tryd.prog) w 22 9 none 0 0 0 0 Tryd.underlying22
      go_enter Tryd.func7, Tryd.ntmps7
      go_wp2
      go_ret
      exact ⟨_, rfl, Or.inl ⟨rfl, none, 0, rfl, fun _ => rfl⟩, Below.refl _ _⟩
    | some a =>
      have e1 := fun w => Lib.run_eql_slice_nil (P := Tryd.prog) w 22 9 (some a) 0 cap 0 0 Tryd.underlying22
      obtain ⟨C, hr, _⟩ := made_string 0 w (by omega)
      have hr' : (Instr.makeSlice 22 (.int .i64 0) (.int .i64 0)).run Tryd.prog w = .ok (.slice (some ⟨w.heap.size, 0, none⟩) 0 0) (w.alloc (.cells C 9)) := hr
      clear hr
      go_enter Tryd.func7, Tryd.ntmps7
      go_wp2_with fail
      go_loopg [4] 0 (fun g iv wr => iv = .int .i64 0 ∧ wr = w.alloc (.cells C 9))
      case atStart => exact ⟨rfl, rfl⟩
      case round =>
        obtain ⟨rfl, rfl⟩ := hrel
        go_wp2
        go_ret
        exact ⟨_, rfl, Or.inl ⟨rfl, _, 0, rfl, fun h => by cases h⟩, (Below.refl _ _).alloc (Nat.le_refl _) _⟩
  · have e1 := fun w => Lib.run_eql_slice_nil (P := Tryd.prog) w 22 9 (some ⟨b, o, none⟩) xs.length cap 0 0 Tryd.underlying22
    obtain ⟨C, hr, hC⟩ := made_string xs.length w hn
    have hpos : 0 < xs.length := List.length_pos_iff.2 hne
    have HC : Hid (∀ i (h : i < xs.length), w.cell? ⟨b, o + i, none⟩ = some (.string xs[i])) := hcell
    have HH : Hid (Half w.heap.size xs.length 0 xs w (w.alloc (.cells C 9))) := by
      refine ⟨fun j hj => ⟨⟨#[]⟩, ?_, fun h => by omega⟩, fun j => World.frozen?_alloc_at _ _ _ _ rfl, (Below.refl _ _).alloc (Nat.le_refl _) _⟩
      rw [World.cell?_alloc_at _ _ _ _ rfl]
      exact hC j hj
    have HNE : Hid (xs ≠ []) := hne
    clear hcell hC hne
    go_enter Tryd.func7, Tryd.ntmps7
    go_wp2_with fail
    go_loopg [4] xs.length (fun g iv wr => ∃ i : Nat, g = xs.length - i ∧ iv = .int .i64 i ∧ i ≤ xs.length ∧ Half w.heap.size xs.length i xs w wr)
    case atStart => exact ⟨0, rfl, rfl, Nat.zero_le _, HH.out⟩
    case round =>
      obtain ⟨i, hg, rfl, hi, hh⟩ := hrel
      have HG : Hid (gk = xs.length - i) := hg
      have HF : Hid (Half w.heap.size xs.length i xs w wr) := hh
      clear hg
      by_cases hlt : i < xs.length
      · have hltI : (i : Int) < (xs.length : Int) := by omega
        have c1 : wr.cell? ⟨b, o + i, none⟩ = some (.string xs[i]) := (hh.low.cell (p := ⟨b, o + i, none⟩) (World.block_lt_of_cell? w _ (HC.out i hlt))).trans (HC.out i hlt)
        obtain ⟨s0, c2, _⟩ := hh.cell i hlt
        have f2 := hh.free i
        clear hh
        go_wp2_with fail
        go_roundg (xs.length - (i + 1))
        case measure => have := HG.out; omega
        case rel => exact ⟨i + 1, rfl, by go_num, by omega, HF.out.put hlt _ (List.getElem?_eq_getElem hlt)⟩
      · have hltI : ¬ (i : Int) < (xs.length : Int) := by omega
        obtain rfl : i = xs.length := by omega
        clear hh
        go_wp2
        go_ret
        refine ⟨_, rfl, Or.inr ⟨HNE.out, w.heap.size, 0, xs.length, rfl, fun j hj => ?_⟩, HF.out.low⟩
        obtain ⟨s, hs, hq⟩ := HF.out.cell j hj
        rw [Nat.zero_add, hs]
        have := hq hj
        rw [List.getElem?_eq_getElem hj] at this
        rw [Option.some.inj this]
end Go.Proofs.Qxb6606142aDoor
