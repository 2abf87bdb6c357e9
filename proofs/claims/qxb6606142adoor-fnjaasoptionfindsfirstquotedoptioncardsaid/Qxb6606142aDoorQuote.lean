import Derived.Test.Qxb6606142aDoorOwn
namespace Go.Proofs.Qxb6606142aDoor
open Go.RowKit Go.PlainAid

/-- Quotes and backslashes escaped. -/
def esc : List UInt8 → List UInt8
  | [] => []
  | c :: r => if c = 34 ∨ c = 92 then 92 :: c :: esc r else c :: esc r
theorem esc_append : ∀ a b : List UInt8, esc (a ++ b) = esc a ++ esc b
  | [], _ => rfl
  | c :: a, b => by
    rw [List.cons_append, esc, esc, esc_append a b]
    split <;> rfl
theorem esc_length : ∀ a : List UInt8, (esc a).length ≤ 2 * a.length
  | [] => Nat.le_refl _
  | c :: a => by
    have := esc_length a
    rw [esc]
    split <;> simp <;> omega
def quo (x : List UInt8) : List UInt8 := 34 :: (esc x ++ [34])
theorem bt_get (t : ByteArray) (i : Nat) (h : i < t.data.toList.length) : bt t i = ((t.data.toList[i].toNat : Nat) : Int) := by
  have h' : i < t.size := by rw [Lib.size_eq]; exact h
  rw [← get_bt t i h']
  rfl

set_option maxRecDepth 8000 in
set_option maxHeartbeats 4000000 in
theorem quote_any (B : Nat) (v : Value) (l : List UInt8) (t : ByteArray) (w : World) (hB : Byts B v l w) (hb : B ≤ w.heap.size) (hl : l.length ≤ 8388608) (ht : t.size ≤ 1048576) :
    Calls Tryd.prog 8 #[v, .string t] w fun r w' => ∃ v', r = .returned v' ∧ Byts B v' (l ++ quo t.data.toList) w' ∧ Below B w w' := by
  have hgb := get_bt t
  have hlen : t.data.toList.length = t.size := (Lib.size_eq t).symm
  have HLen : Hid (t.data.toList.length = t.size) := hlen
  clear hlen
  obtain ⟨v1, w1, r1, b1, q1⟩ := byts_push 34 hB hb (by omega)
  have R1 : Hid ((Builtin.append_ #[25, 25] 25 #[v, .slice (some ⟨w.heap.size, 0, none⟩) 1 1]).run Tryd.prog (w.alloc (.cells #[.int .u8 34] 5)) = .ok v1 w1) := r1
  have B1 : Hid (Byts B v1 (l ++ [34]) w1) := b1
  have Q1 : Hid (Below B w w1) := q1
  have HBw : Hid (B ≤ w.heap.size) := hb
  have HLb : Hid (l.length ≤ 8388608) := hl
  clear r1 b1 q1 hB hb hl
  go_enter Tryd.func8, Tryd.ntmps8
  go_wp2_with (at_builtin; refine wpList_append_run (by rfl) _ _ _ _ (by rfl) _ _ _ _ (by rfl) (by rfl) R1.out ?_)
  go_loopg [0, 5] t.size (fun g bv iv wr => ∃ i : Nat, g = t.size - i ∧ iv = .int .i64 i ∧ i ≤ t.size ∧ Byts B bv (l ++ 34 :: esc (t.data.toList.take i)) wr ∧ Below B w wr)
  case atStart => exact ⟨0, rfl, rfl, Nat.zero_le _, B1.out, Q1.out⟩
  case round =>
    obtain ⟨i, hg, rfl, hi, hby, hbw⟩ := hrel
    have HG : Hid (gk = t.size - i) := hg
    have HY : Hid (Byts B u0 (l ++ 34 :: esc (t.data.toList.take i)) wr) := hby
    have HW : Hid (Below B w wr) := hbw
    have hel := esc_length (t.data.toList.take i)
    have HN : Hid ((l ++ 34 :: esc (t.data.toList.take i)).length ≤ 16000000) := by
      show _ ≤ _
      have := HLb.out
      have := HLen.out
      simp at hel ⊢
      omega
    have HSw : Hid (B ≤ wr.heap.size) := Nat.le_trans HBw.out hbw.size
    clear hg hby hbw hel
    by_cases hlt : i < t.size
    · have hltI : (i : Int) < (t.size : Int) := by omega
      have hiL : i < t.data.toList.length := by rw [HLen.out]; exact hlt
      have hbc := bt_get t i hiL
      have htk : t.data.toList.take (i + 1) = t.data.toList.take i ++ [t.data.toList[i]] := List.take_succ_eq_append_getElem hiL
      obtain ⟨c, hc⟩ : ∃ c, t.data.toList[i] = c := ⟨_, rfl⟩
      rw [hc] at hbc htk
      have HT : Hid (t.data.toList.take (i + 1) = t.data.toList.take i ++ [c]) := htk
      have HBC : Hid (bt t i = (c.toNat : Int)) := hbc
      clear htk hc hbc
      by_cases hq : c = 34 ∨ c = 92
      · obtain ⟨v2, w2, r2, b2, q2⟩ := byts_push 92 HY.out HSw.out (by have := HN.out; omega)
        have R2 : Hid ((Builtin.append_ #[25, 25] 25 #[u0, .slice (some ⟨wr.heap.size, 0, none⟩) 1 1]).run Tryd.prog (wr.alloc (.cells #[.int .u8 92] 5)) = .ok v2 w2) := r2
        obtain ⟨v3, w3, r3, b3, q3⟩ := byts_push c b2 (Nat.le_trans HSw.out q2.size) (by have := HN.out; simp at this ⊢; omega)
        have R3 : Hid ((Builtin.append_ #[25, 25] 25 #[v2, .slice (some ⟨w2.heap.size, 0, none⟩) 1 1]).run Tryd.prog (w2.alloc (.cells #[.int .u8 (bt t i)] 5)) = .ok v3 w3) := by
          show _ = _
          rw [HBC.out]; exact r3
        have HY3 : Hid (Byts B v3 (l ++ 34 :: esc (t.data.toList.take (i + 1))) w3) := by
          show Byts _ _ _ _
          rw [HT.out, esc_append]
          have e : esc [c] = [92, c] := by rw [esc, if_pos hq]; rfl
          rw [e]
          simpa using b3
        have HW3 : Hid (Below B w w3) := (HW.out.trans q2).trans q3
        clear r2 b2 q2 r3 b3 q3
        have hor : ((bt t i == 34) = true) ∨ ((bt t i == 34) = false ∧ (bt t i == 92) = true) := by
          rw [HBC.out]
          rcases hq with rfl | rfl
          · exact Or.inl rfl
          · exact Or.inr ⟨rfl, rfl⟩
        clear hq
        rcases hor with h34 | ⟨h34, h92⟩
        · go_wp2_with (first | (at_builtin; refine wpList_append_run (by rfl) _ _ _ _ (by rfl) _ _ _ _ (by rfl) (by rfl) R2.out ?_) | (at_builtin; refine wpList_append_run (by rfl) _ _ _ _ (by rfl) _ _ _ _ (by rfl) (by rfl) R3.out ?_))
          go_roundg (t.size - (i + 1))
          case measure => have := HG.out; omega
          case rel => exact ⟨i + 1, rfl, by go_num, by omega, HY3.out, HW3.out⟩
        · go_wp2_with (first | (at_builtin; refine wpList_append_run (by rfl) _ _ _ _ (by rfl) _ _ _ _ (by rfl) (by rfl) R2.out ?_) | (at_builtin; refine wpList_append_run (by rfl) _ _ _ _ (by rfl) _ _ _ _ (by rfl) (by rfl) R3.out ?_))
          go_roundg (t.size - (i + 1))
          case measure => have := HG.out; omega
          case rel => exact ⟨i + 1, rfl, by go_num, by omega, HY3.out, HW3.out⟩
      · obtain ⟨v3, w3, r3, b3, q3⟩ := byts_push c HY.out HSw.out (by have := HN.out; omega)
        have R3 : Hid ((Builtin.append_ #[25, 25] 25 #[u0, .slice (some ⟨wr.heap.size, 0, none⟩) 1 1]).run Tryd.prog (wr.alloc (.cells #[.int .u8 (bt t i)] 5)) = .ok v3 w3) := by
          show _ = _
          rw [HBC.out]; exact r3
        have HY3 : Hid (Byts B v3 (l ++ 34 :: esc (t.data.toList.take (i + 1))) w3) := by
          show Byts _ _ _ _
          rw [HT.out, esc_append]
          have e : esc [c] = [c] := by rw [esc, if_neg hq]; rfl
          rw [e]
          simpa using b3
        have HW3 : Hid (Below B w w3) := HW.out.trans q3
        clear r3 b3 q3
        have h34 : (bt t i == 34) = false := by
          rw [HBC.out, Bool.eq_false_iff]
          intro h
          exact hq (Or.inl (UInt8.toNat_inj.1 (by have : (c.toNat : Int) = 34 := by simpa using h
                                                  show c.toNat = 34; omega)))
        have h92 : (bt t i == 92) = false := by
          rw [HBC.out, Bool.eq_false_iff]
          intro h
          exact hq (Or.inr (UInt8.toNat_inj.1 (by have : (c.toNat : Int) = 92 := by simpa using h
                                                  show c.toNat = 92; omega)))
        clear hq
        go_wp2_with (at_builtin; refine wpList_append_run (by rfl) _ _ _ _ (by rfl) _ _ _ _ (by rfl) (by rfl) R3.out ?_)
        go_roundg (t.size - (i + 1))
        case measure => have := HG.out; omega
        case rel => exact ⟨i + 1, rfl, by go_num, by omega, HY3.out, HW3.out⟩
    · have hlt' : ¬ (i : Int) < (t.size : Int) := by omega
      obtain rfl : i = t.size := by omega
      obtain ⟨v3, w3, r3, b3, q3⟩ := byts_push 34 HY.out HSw.out (by have := HN.out; omega)
      have R3 : Hid ((Builtin.append_ #[25, 25] 25 #[u0, .slice (some ⟨wr.heap.size, 0, none⟩) 1 1]).run Tryd.prog (wr.alloc (.cells #[.int .u8 34] 5)) = .ok v3 w3) := r3
      have HY3 : Hid (Byts B v3 (l ++ quo t.data.toList) w3) := by
        show Byts _ _ _ _
        have e : t.data.toList.take t.size = t.data.toList := List.take_of_length_le (by rw [HLen.out]; exact Nat.le_refl _)
        rw [e] at b3
        unfold quo
        simpa using b3
      have HW3 : Hid (Below B w w3) := HW.out.trans q3
      clear r3 b3 q3
      go_wp2_with (at_builtin; refine wpList_append_run (by rfl) _ _ _ _ (by rfl) _ _ _ _ (by rfl) (by rfl) R3.out ?_)
      go_ret
      exact ⟨_, rfl, HY3.out, HW3.out⟩
end Go.Proofs.Qxb6606142aDoor
