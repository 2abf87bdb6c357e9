import Derived.Test.Qxb6606142aDoorRead
namespace Go.Proofs.Qxb6606142aDoor
open Go.RowKit Go.PlainAid

/-- The tokens of an entry. -/
def entry (a f : List UInt8) (ps : List (ByteArray × ByteArray)) : List (Bool × Tk) :=
  (false, .inl a) :: (true, .inl f) :: (ps.flatMap fun p => [(true, Sum.inl p.1.data.toList), (false, Sum.inr 61), (false, Sum.inl p.2.data.toList)]) ++ [(false, .inr 59)]
/-- The strings that are read. -/
def strs (a f : ByteArray) (ps : List (ByteArray × ByteArray)) : List ByteArray := a :: f :: (ps.flatMap fun p => [p.1, ⟨#[61]⟩, p.2]) ++ [⟨#[59]⟩]
theorem str_self (x : ByteArray) : str x.data.toList = x := ba_eq rfl
theorem entry_vals (a f : ByteArray) (ps : List (ByteArray × ByteArray)) : (entry a.data.toList f.data.toList ps).map (fun k : Bool × Tk => str k.2.val) = strs a f ps := by
  unfold entry strs
  simp only [List.map_cons, List.map_append, List.map_nil, Tk.val, str_self, List.map_flatMap, List.cons_append]
theorem entry_good (a f : List UInt8) (ps : List (ByteArray × ByteArray)) : Good (entry a f ps) := by
  refine ⟨fun k hk => ?_, Or.inr ⟨_, rfl⟩⟩
  unfold entry at hk
  simp only [List.cons_append, List.mem_cons, List.mem_append, List.mem_flatMap, List.mem_nil_iff, or_false] at hk
  rcases hk with rfl | rfl | ⟨p, _, rfl | rfl | rfl⟩ | rfl
  · trivial
  · trivial
  · trivial
  · exact Or.inl rfl
  · trivial
  · exact Or.inr rfl

theorem flat_length (ps : List (ByteArray × ByteArray)) : (ps.flatMap fun p => [p.1, (⟨#[61]⟩ : ByteArray), p.2]).length = 3 * ps.length := by
  induction ps with
  | nil => rfl
  | cons p ps ih => rw [List.flatMap_cons, List.length_append, ih, List.length_cons]; simp; omega
theorem strs_length (a f : ByteArray) (ps : List (ByteArray × ByteArray)) : (strs a f ps).length = 3 * ps.length + 3 := by
  unfold strs
  simp only [List.cons_append, List.length_cons, List.length_append, List.length_nil]
  rw [flat_length]
theorem flat_get (ps : List (ByteArray × ByteArray)) (z : List ByteArray) : ∀ j (h : j < ps.length), ((ps.flatMap fun p => [p.1, (⟨#[61]⟩ : ByteArray), p.2]) ++ z)[3 * j]? = some ps[j].1 ∧ ((ps.flatMap fun p => [p.1, (⟨#[61]⟩ : ByteArray), p.2]) ++ z)[3 * j + 1]? = some ⟨#[61]⟩ ∧ ((ps.flatMap fun p => [p.1, (⟨#[61]⟩ : ByteArray), p.2]) ++ z)[3 * j + 2]? = some ps[j].2 := by
  induction ps with
  | nil => intro j h; simp at h
  | cons p ps ih =>
    intro j h
    cases j with
    | zero => exact ⟨rfl, rfl, rfl⟩
    | succ j =>
      have := ih j (by simpa using h)
      rw [List.flatMap_cons]
      exact this
theorem strs_get (a f : ByteArray) (ps : List (ByteArray × ByteArray)) (j : Nat) (h : j < ps.length) : (strs a f ps)[2 + 3 * j]? = some ps[j].1 ∧ (strs a f ps)[2 + 3 * j + 1]? = some ⟨#[61]⟩ ∧ (strs a f ps)[2 + 3 * j + 2]? = some ps[j].2 := by
  have := flat_get ps [⟨#[59]⟩] j h
  unfold strs
  have e : ∀ n, 2 + n = n + 1 + 1 := fun n => by omega
  refine ⟨?_, ?_, ?_⟩
  · rw [e]; exact this.1
  · rw [Nat.add_assoc, e]; exact this.2.1
  · rw [Nat.add_assoc, e]; exact this.2.2

/-- The first value under this name, before a lone semicolon. -/
def look (m : ByteArray) : List (ByteArray × ByteArray) → Option ByteArray
  | [] => none
  | p :: r => if p.1 = ⟨#[59]⟩ then none else if p.1 = m then some p.2 else look m r
def found (m : ByteArray) (ps : List (ByteArray × ByteArray)) : Value := match look m ps with
  | some v => .tuple #[.string v, .bool true]
  | none => .tuple #[.string ⟨#[]⟩, .bool false]

set_option maxRecDepth 8000 in
set_option maxHeartbeats 8000000 in
theorem option_any (a f m : ByteArray) (ps : List (ByteArray × ByteArray)) (w : World) (hV : Vars w) (hl : (text (entry a.data.toList f.data.toList ps)).length ≤ 8388608) (hn : 3 * ps.length + 3 ≤ 4194304) :
    Calls Tryd.prog 12 #[.string (str (text (entry a.data.toList f.data.toList ps))), .string m] w fun r w' => r = .returned (found m ps) ∧ Below w.heap.size w w' := by
  have cT : Hid (Calls Tryd.prog 14 #[.string (str (text (entry a.data.toList f.data.toList ps)))] w fun r w' => ∃ v, r = .returned (.tuple #[v, .bool true]) ∧ Strs w.heap.size v (strs a f ps) w' ∧ Below w.heap.size w w') := by
    have h := tokens_any (entry a.data.toList f.data.toList ps) w (entry_good _ _ _) hV hl (by
      have h1 := congrArg List.length (entry_vals a f ps)
      rw [List.length_map, strs_length] at h1
      omega)
    rw [entry_vals] at h
    exact h
  clear hV hl
  go_enter Tryd.func12, Tryd.ntmps12
  go_wp2_with fail
  refine cT.out.mono ?_
  rintro e w1 ⟨v, rfl, hS, hB⟩
  have hlen := strs_length a f ps
  obtain ⟨g, cap, rfl, _, _, hcap, hcell⟩ := hS.form (by unfold strs; simp)
  have HC : Hid (∀ j (h : j < ps.length), w1.cell? ⟨g, 2 + 3 * j, none⟩ = some (.string ps[j].1) ∧ w1.cell? ⟨g, 2 + 3 * j + 1, none⟩ = some (.string ⟨#[61]⟩) ∧ w1.cell? ⟨g, 2 + 3 * j + 2, none⟩ = some (.string ps[j].2)) := fun j h => by
    obtain ⟨g1, g2, g3⟩ := strs_get a f ps j h
    refine ⟨?_, ?_, ?_⟩
    · obtain ⟨hi, he⟩ := List.getElem?_eq_some_iff.1 g1; rw [hcell _ hi, he]
    · obtain ⟨hi, he⟩ := List.getElem?_eq_some_iff.1 g2; rw [hcell _ hi, he]
    · obtain ⟨hi, he⟩ := List.getElem?_eq_some_iff.1 g3; rw [hcell _ hi, he]
  have HB : Hid (Below w.heap.size w w1) := hB
  rw [hlen] at hcap ⊢
  have hc1 : ((3 * ps.length + 3 : Nat) : Int) ≤ (cap : Int) := by omega
  have hlt3 : decide (((3 * ps.length + 3 : Nat) : Int) < 3) = false := decide_eq_false (by omega)
  clear hcell hS hB hlen
  generalize hL : 3 * ps.length + 3 = L at *
  have h2L : (2 : Int) ≤ (L : Int) := by omega
  have h2LN : 2 ≤ L := by omega
  go_wp2_with fail
  go_loopg [8] ps.length (fun g' ov wr => ∃ j len c' : Nat, g' = ps.length - j ∧ ov = .slice (some ⟨g, 2 + 3 * j, none⟩) len c' ∧ len = 3 * (ps.length - j) + 1 ∧ len ≤ c' ∧ j ≤ ps.length ∧ look m ps = look m (ps.drop j) ∧ wr = w1)
  case atStart => exact ⟨0, L - 2, cap - 2, rfl, rfl, by omega, by omega, Nat.zero_le _, rfl, rfl⟩
  case round =>
    obtain ⟨j, len, c', hg, rfl, hlen, hlc, hj, hlk, rfl⟩ := hrel
    have HG : Hid (gk = ps.length - j) := hg
    have HLk : Hid (look m ps = look m (ps.drop j)) := hlk
    have HLn : Hid (len = 3 * (ps.length - j) + 1) := hlen
    clear hg hlk hlen
    by_cases hlt : j < ps.length
    · have h3 : (3 : Int) ≤ (len : Int) := by have := HLn.out; omega
      have h3N : 3 ≤ len := by omega
      have hlcI : (len : Int) ≤ (c' : Int) := by omega
      have h0 : 0 < len := by omega
      have h1 : 1 < len := by omega
      have h2 : 2 < len := by omega
      have h1I : (1 : Int) < (len : Int) := by omega
      have h2I : (2 : Int) < (len : Int) := by omega
      have h0I : (0 : Int) < (len : Int) := by omega
      obtain ⟨k0, k1, k2⟩ := HC.out j hlt
      have hdr : ps.drop j = ps[j] :: ps.drop (j + 1) := List.drop_eq_getElem_cons hlt
      obtain ⟨x, hx⟩ : ∃ x, ps[j].1 = x := ⟨_, rfl⟩
      obtain ⟨y, hy⟩ : ∃ y, ps[j].2 = y := ⟨_, rfl⟩
      rw [hx] at k0
      rw [hy] at k2
      have HLL : Hid (look m (ps.drop j) = if x = ⟨#[59]⟩ then none else if x = m then some y else look m (ps.drop (j + 1))) := by
        show _ = _
        rw [hdr, look, hx, hy]
      clear hdr hx hy
      obtain ⟨O, hO⟩ : ∃ O, 2 + 3 * j = O := ⟨_, rfl⟩
      rw [hO] at k0 k1 k2 ⊢
      have HO : Hid (2 + 3 * j = O) := hO
      clear hO
      have hc4 : 4 ≤ c' := by have := HLn.out; omega
      have hc4I : (4 : Int) ≤ (c' : Int) := by omega
      have hc3 : c' - 3 ≠ 0 := by omega
      by_cases hs : x = ⟨#[59]⟩
      · have hs1 : (x.toList == [59]) = true := by rw [hs, Lib.toList_data]; rfl
        have HN : Hid (look m ps = none) := by show _ = _; rw [HLk.out, HLL.out, if_pos hs]
        clear hs
        go_wp2_with fail
        go_ret2
        exact ⟨by unfold found; rw [HN.out]; rfl, HB.out⟩
      · have hs1 : (x.toList == [59]) = false := by
          rw [Bool.eq_false_iff]
          intro h
          rw [beq_iff_eq, Lib.toList_data] at h
          exact hs (ba_eq h)
        by_cases hm : x = m
        · have hm1 : (x.toList == m.toList) = true := by rw [hm]; simp
          have HN : Hid (look m ps = some y) := by show _ = _; rw [HLk.out, HLL.out, if_neg hs, if_pos hm]
          clear hs hm
          go_wp2_with fail
          go_ret2
          exact ⟨by unfold found; rw [HN.out]; rfl, HB.out⟩
        · have hm1 : (x.toList == m.toList) = false := by
            rw [Bool.eq_false_iff]
            intro h
            rw [beq_iff_eq, Lib.toList_data, Lib.toList_data] at h
            exact hm (ba_eq h)
          have HN : Hid (look m ps = look m (ps.drop (j + 1))) := by show _ = _; rw [HLk.out, HLL.out, if_neg hs, if_neg hm]
          clear hs hm
          go_wp2_with fail
          go_roundg (ps.length - (j + 1))
          case measure => have := HG.out; omega
          case rel => exact ⟨j + 1, len - 3, c' - 3, rfl, by rw [show 2 + 3 * (j + 1) = O + 3 by have := HO.out; omega], by have := HLn.out; omega, by omega, by omega, HN.out, rfl⟩
    · have hjn : j = ps.length := by omega
      have hl1 : len = 1 := by have := HLn.out; omega
      have HN : Hid (look m ps = none) := by
        show _ = _
        rw [HLk.out, hjn, List.drop_length]
        rfl
      clear hjn HLn
      subst hl1
      go_wp2_with fail
      go_ret2
      exact ⟨by unfold found; rw [HN.out]; rfl, HB.out⟩
end Go.Proofs.Qxb6606142aDoor
