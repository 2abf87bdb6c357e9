import Derived.Test.Qxb6606142aDoorClone
namespace Go.Proofs.Qxb6606142aDoor
open Go.RowKit Go.PlainAid

theorem Arg.slots {v : Value} {xs : List ByteArray} {w : World} (h : Arg v xs w) : ∃ ao cap, v = .slice ao xs.length cap ∧ ∀ i (h : i < xs.length), ∃ b o, ao = some ⟨b, o, none⟩ ∧ w.cell? ⟨b, o + i, none⟩ = some (.string xs[i]) := by
  rcases h with ⟨rfl, ao, cap, rfl, _⟩ | ⟨_, b, o, cap, rfl, h⟩
  · exact ⟨ao, cap, rfl, fun i h => by simp at h⟩
  · exact ⟨_, cap, rfl, fun i hi => ⟨b, o, rfl, h i hi⟩⟩

/-- What a bound on lengths leaves, and what follows where it answers true. -/
def BPost (a f m : ByteArray) (xs ys : List ByteArray) (w : World) (r : Ending) (w' : World) : Prop := ∃ b, r = .returned (.bool b) ∧ w' = w ∧
      (b = true → a.size ≤ 1048576 ∧ f.size ≤ 1048576 ∧ m.size ≤ 1048576 ∧ xs.length ≤ 1048576 ∧ ys.length ≤ 1048576 ∧ (∀ x ∈ xs, x.size ≤ 1048576) ∧ ∀ x ∈ ys, x.size ≤ 1048576)
theorem BPost.no {a f m : ByteArray} {xs ys : List ByteArray} {w : World} : BPost a f m xs ys w (.returned (.bool false)) w := ⟨false, rfl, rfl, fun h => by cases h⟩

set_option maxRecDepth 8000 in
set_option maxHeartbeats 8000000 in
theorem bytes_any (a f m : ByteArray) (v1 v2 : Value) (xs ys : List ByteArray) (w : World) (h1 : Arg v1 xs w) (h2 : Arg v2 ys w) (ha : a.size ≤ 9223372036854775807) (hf : f.size ≤ 9223372036854775807) (hm : m.size ≤ 9223372036854775807)
    (hx : xs.length ≤ 9223372036854775807) (hy : ys.length ≤ 9223372036854775807) (hxs : ∀ x ∈ xs, x.size ≤ 9223372036854775807) (hys : ∀ x ∈ ys, x.size ≤ 9223372036854775807) :
    Calls Tryd.prog 11 #[.string a, .string f, v1, v2, .string m] w (BPost a f m xs ys w) := by
  obtain ⟨o1, c1, rfl, k1⟩ := h1.slots
  obtain ⟨o2, c2, rfl, k2⟩ := h2.slots
  have K1 : Hid (∀ i (h : i < xs.length), ∃ b o, o1 = some ⟨b, o, none⟩ ∧ w.cell? ⟨b, o + i, none⟩ = some (.string xs[i])) := k1
  have K2 : Hid (∀ i (h : i < ys.length), ∃ b o, o2 = some ⟨b, o, none⟩ ∧ w.cell? ⟨b, o + i, none⟩ = some (.string ys[i])) := k2
  have X1 : Hid (∀ x ∈ xs, x.size ≤ 9223372036854775807) := hxs
  have X2 : Hid (∀ x ∈ ys, x.size ≤ 9223372036854775807) := hys
  clear h1 h2 k1 k2 hxs hys
  go_enter Tryd.func11, Tryd.ntmps11
  go_wp2_with fail
  all_goals try (go_ret; exact BPost.no)
  have A1 : Hid (a.size ≤ 1048576 ∧ f.size ≤ 1048576 ∧ xs.length ≤ 1048576 ∧ a.size + f.size + xs.length ≤ 1048576) := by
    refine ⟨?_, ?_, ?_, ?_⟩ <;> omega
  go_loopg [11, 12] xs.length (fun g zv iv wr => ∃ i z : Nat, g = xs.length - i ∧ iv = .int .i64 i ∧ zv = .int .i64 z ∧ z ≤ 1048576 ∧ i ≤ xs.length ∧ wr = w ∧ ∀ j (h : j < xs.length), j < i → xs[j].size ≤ 1048576)
  case atStart => exact ⟨0, a.size + f.size + xs.length, rfl, rfl, congrArg (Value.int .i64) (by omega), A1.out.2.2.2, Nat.zero_le _, rfl, fun j _ h => by omega⟩
  case round =>
    obtain ⟨i, z, hg, rfl, rfl, hz, hi, rfl, hall⟩ := hrel
    have HG : Hid (gk = xs.length - i) := hg
    have HA : Hid (∀ j (h : j < xs.length), j < i → xs[j].size ≤ 1048576) := hall
    clear hg hall
    by_cases hlt : i < xs.length
    · have hltI : (i : Int) < (xs.length : Int) := by omega
      obtain ⟨b, o, rfl, hc⟩ := K1.out i hlt
      have hsz := X1.out xs[i] (List.getElem_mem hlt)
      obtain ⟨x, hx'⟩ : ∃ x, xs[i] = x := ⟨_, rfl⟩
      rw [hx'] at hc hsz
      have HX : Hid (xs[i] = x) := hx'
      clear hx'
      go_wp2_with fail
      all_goals try (go_ret; exact BPost.no)
      go_roundg (xs.length - (i + 1))
      case measure => have := HG.out; omega
      case rel => exact ⟨i + 1, z + x.size, rfl, by go_num, by go_num, by omega, by omega, rfl, fun j hj hji => by
          rcases Nat.lt_or_ge j i with h | h
          · exact HA.out j hj h
          · obtain rfl : j = i := by omega
            rw [HX.out]; omega⟩
    · have hltI : ¬ (i : Int) < (xs.length : Int) := by omega
      go_wp2_with fail
      all_goals try (go_ret; exact BPost.no)
      have A2 : Hid (ys.length ≤ 1048576 ∧ z + ys.length ≤ 1048576) := by
        refine ⟨?_, ?_⟩ <;> omega
      have HXs : Hid (∀ x ∈ xs, x.size ≤ 1048576) := fun x hx => by
        obtain ⟨j, hj, rfl⟩ := List.getElem_of_mem hx
        exact HA.out j hj (by omega)
      go_loopg [11, 13] ys.length (fun g zv iv wq => ∃ i z : Nat, g = ys.length - i ∧ iv = .int .i64 i ∧ zv = .int .i64 z ∧ z ≤ 1048576 ∧ i ≤ ys.length ∧ wq = wr ∧ ∀ j (h : j < ys.length), j < i → ys[j].size ≤ 1048576)
      case atStart => exact ⟨0, z + ys.length, rfl, rfl, congrArg (Value.int .i64) (by omega), A2.out.2, Nat.zero_le _, rfl, fun j _ h => by omega⟩
      case round =>
        obtain ⟨i2, z2, hg, rfl, rfl, hz2, hi2, rfl, hall⟩ := hrel
        have HG2 : Hid (gk = ys.length - i2) := hg
        have HA2 : Hid (∀ j (h : j < ys.length), j < i2 → ys[j].size ≤ 1048576) := hall
        clear hg hall
        by_cases hlt2 : i2 < ys.length
        · have hltI2 : (i2 : Int) < (ys.length : Int) := by omega
          obtain ⟨b, o, rfl, hc⟩ := K2.out i2 hlt2
          have hsz := X2.out ys[i2] (List.getElem_mem hlt2)
          obtain ⟨x, hx'⟩ : ∃ x, ys[i2] = x := ⟨_, rfl⟩
          rw [hx'] at hc hsz
          have HX : Hid (ys[i2] = x) := hx'
          clear hx'
          go_wp2_with fail
          all_goals try (go_ret; exact BPost.no)
          go_roundg (ys.length - (i2 + 1))
          case measure => have := HG2.out; omega
          case rel => exact ⟨i2 + 1, z2 + x.size, rfl, by go_num, by go_num, by omega, by omega, rfl, fun j hj hji => by
              rcases Nat.lt_or_ge j i2 with h | h
              · exact HA2.out j hj h
              · obtain rfl : j = i2 := by omega
                rw [HX.out]; omega⟩
        · have hltI2 : ¬ (i2 : Int) < (ys.length : Int) := by omega
          have HYs : Hid (∀ x ∈ ys, x.size ≤ 1048576) := fun x hx => by
            obtain ⟨j, hj, rfl⟩ := List.getElem_of_mem hx
            exact HA2.out j hj (by omega)
          go_wp2_with fail
          all_goals try (go_ret; exact BPost.no)
          go_ret
          have := A1.out
          exact ⟨true, rfl, rfl, fun _ => ⟨by omega, by omega, by omega, by omega, A2.out.1, HXs.out, HYs.out⟩⟩
end Go.Proofs.Qxb6606142aDoor
