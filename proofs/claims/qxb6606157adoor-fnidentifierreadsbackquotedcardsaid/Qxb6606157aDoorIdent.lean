import Derived.Test.Qxb6606157aDoorBld
import Derived.Test.Qxb6606157aDoorPlain
import Derived.Lib.ReplaceLaws
namespace Go.Proofs.Qxb6606157aDoor
open Go.RowKit Go.PlainAid

theorem ba_eq {x y : ByteArray} (h : x.data.toList = y.data.toList) : x = y := ByteArray.ext (Array.toList_inj.1 h)
theorem below_N {B : Nat} {a w : World} (h : Below B a w) (n : Nat) : Below B a (w.drewN n) := ⟨h.os, h.tape, h.output, h.size, h.block⟩
/-- The bytes of a list, as a string. -/
abbrev str (l : List UInt8) : ByteArray := ⟨l.toArray⟩
theorem str_size (l : List UInt8) : (str l).size = l.length := by simp [ByteArray.size]

set_option maxRecDepth 8000 in
set_option maxHeartbeats 1000000 in
theorem quoted_any (n : ByteArray) (m : Int) (w : World) (hn : n.size ≤ 1048576) (hm : w.cell? ⟨2, 0, none⟩ = some (.int .i64 m)) :
    Calls Tryd.prog 22 #[.string n] w fun e w' => e = .returned (.string (str (96 :: (dbl n.data.toList ++ [96])))) ∧ Below w.heap.size w w' := by
  have hc := Lib.count_le n.data.toList [96]
  have hl : n.data.toList.length = n.size := (Lib.size_eq n).symm
  have cR := Tryd.strings_ReplaceAll n ⟨#[96]⟩ ⟨#[96, 96]⟩ m w (by omega) hm (by decide) (by
    have : Lib.countB n ⟨#[96]⟩ ≤ n.size + 1 := by rw [← hl]; exact hc
    have e : (⟨#[96, 96]⟩ : ByteArray).size = 2 := rfl
    rw [e]; omega)
  rw [show Lib.replaceAll n.data.toList (⟨#[96]⟩ : ByteArray).data.toList (⟨#[96, 96]⟩ : ByteArray).data.toList = dbl n.data.toList from replace_dbl _] at cR
  have HR : Hid (Calls Tryd.prog 30 #[.string n, .string ⟨#[96]⟩, .string ⟨#[96, 96]⟩] w fun e w' => e = .returned (.string ⟨(dbl n.data.toList).toArray⟩) ∧ Below w.heap.size w w') := cR
  have hdl : (dbl n.data.toList).length ≤ 2097152 := by have := dbl_length n.data.toList; omega
  clear cR hc hl hm
  go_enter Tryd.func22, Tryd.ntmps22
  go_wp2_with (go_at_call 30; refine HR.out.mono ?_; rintro e w' ⟨rfl, hb⟩)
  go_ret
  refine ⟨?_, hb⟩
  congr 2

/-- Each round reads what stands before the next backquote; a doubled one stands for one. -/
theorem hasPre_tail (t : List UInt8) (h : t.head? ≠ some 96) : Lib.hasPrefix t [96] = false := by
  cases t with
  | nil => rfl
  | cons x r =>
    show (96 == x && List.isPrefixOf [] r) = false
    have : (96 == x) = false := by
      rw [Bool.eq_false_iff]
      intro e
      rw [beq_iff_eq] at e
      exact h (by rw [← e]; rfl)
    rw [this]; rfl

theorem cells_append (a b : List UInt8) : Lib.byteCells (a ++ b) = Lib.byteCells a ++ Lib.byteCells b := by unfold Lib.byteCells; rw [List.map_append]
theorem str_tail (c : UInt8) (z : List UInt8) : (str (c :: z)).extract 1 (str (c :: z)).size = str z := by
  apply ba_eq
  rw [Lib.extract_to_end]
  rfl

set_option maxRecDepth 8000 in
set_option maxHeartbeats 4000000 in
theorem identifier_any (n t : List UInt8) (ends : ByteArray) (m : Int) (w : World) (hn : n.length ≤ 1048576) (ht : t.length ≤ 1048576) (hh : t.head? ≠ some 96) (hm : w.cell? ⟨2, 0, none⟩ = some (.int .i64 m)) (h3 : 3 ≤ w.heap.size) :
    Calls Tryd.prog 23 #[.string (str (96 :: (dbl n ++ 96 :: t))), .string ends] w fun e w' => e = .returned (.tuple #[.string (str n), .string (str t)]) ∧ Below w.heap.size w w' := by
  have HM : Hid (∀ W, Below w.heap.size w W → W.cell? ⟨2, 0, none⟩ = some (.int .i64 m)) := fun W hW => (hW.cell (p := ⟨2, 0, none⟩) (by show 2 < w.heap.size; omega)).trans hm
  have hp := hasPre_tail t hh
  have cP : Hid (Calls Tryd.prog 24 #[.string (str (96 :: (dbl n ++ 96 :: t))), .string ⟨#[96]⟩] w fun e w' => e = .returned (.tuple #[.string (str (dbl n ++ 96 :: t)), .bool true]) ∧ w' = w) := by
    have := Tryd.strings_CutPrefix (str (96 :: (dbl n ++ 96 :: t))) ⟨#[96]⟩ w
    exact this
  have cC : Hid (∀ r W, r.length ≤ 1048576 → Below w.heap.size w W → Calls Tryd.prog 25 #[.string (str (dbl r ++ 96 :: t)), .string ⟨#[96]⟩] W fun e w' => e = .returned (.tuple #[.string (str (Lib.cut (dbl r ++ 96 :: t) [96]).1), .string (str (Lib.cut (dbl r ++ 96 :: t) [96]).2.1), .bool (Lib.cut (dbl r ++ 96 :: t) [96]).2.2]) ∧ ∃ k, w' = W.drewN k) := fun r W hr hW => by
    have := dbl_length r
    exact Tryd.strings_Cut (str (dbl r ++ 96 :: t)) ⟨#[96]⟩ m W (by rw [str_size]; simp; omega) (HM.out W hW)
  have cH0 : Hid (∀ W, Calls Tryd.prog 32 #[.string (str t), .string ⟨#[96]⟩] W fun e w' => e = .returned (.bool false) ∧ w' = W) := fun W => by
    have := Tryd.strings_HasPrefix (str t) ⟨#[96]⟩ W
    rw [show Lib.hasPrefix (str t).data.toList (⟨#[96]⟩ : ByteArray).data.toList = false from hp] at this
    exact this
  have cH1 : Hid (∀ z W, Calls Tryd.prog 32 #[.string (str (96 :: z)), .string ⟨#[96]⟩] W fun e w' => e = .returned (.bool true) ∧ w' = W) := fun z W => by
    have := Tryd.strings_HasPrefix (str (96 :: z)) ⟨#[96]⟩ W
    exact this
  clear hm hp
  rcases first_or n with hno | ⟨a, r, hnar, hno⟩
  · have HC : Hid (Lib.cut (dbl n ++ 96 :: t) [96] = (n, t, true)) := cut_last n t hno
    go_enter Tryd.func23, Tryd.ntmps23
    go_wp2_with (go_at_call 24; refine cP.out.mono ?_; rintro e w' ⟨rfl, rfl⟩)
    refine (cC.out n _ hn (Below.refl _ _)).mono ?_
    rw [HC.out]
    rintro e w1 ⟨rfl, k, rfl⟩
    go_wp2_with (go_at_call 32; refine (cH0.out _).mono ?_; rintro e w' ⟨rfl, rfl⟩)
    go_ret2
    exact ⟨rfl, below_N (Below.refl _ _) k⟩
  · subst hnar
    go_enter Tryd.func23, Tryd.ntmps23
    go_wp2_with (go_at_call 24; refine cP.out.mono ?_; rintro e w' ⟨rfl, rfl⟩)
    refine (cC.out _ _ hn (Below.refl _ _)).mono ?_
    rw [cut_mid a r t hno]
    rintro e w1 ⟨rfl, k, rfl⟩
    go_wp2_with (go_at_call 32; refine (cH1.out _ _).mono ?_; rintro e w' ⟨rfl, rfl⟩)
    have hfresh : Lib.IsBuilder 51 5 w'.heap.size w'.heap.size [] ((w'.drewN k).alloc (.cells #[.pointer none, .slice none 0 0] 51)) := Lib.fresh_isBuilder 51 5 (w'.drewN k)
    have hbelow : Below w'.heap.size w' ((w'.drewN k).alloc (.cells #[.pointer none, .slice none 0 0] 51)) := (below_N (Below.refl _ _) k).alloc (Nat.le_refl _) _
    have HF : Hid (Lib.IsBuilder 51 5 w'.heap.size w'.heap.size [] ((w'.drewN k).alloc (.cells #[.pointer none, .slice none 0 0] 51))) := hfresh
    have HW : Hid (Below w'.heap.size w' ((w'.drewN k).alloc (.cells #[.pointer none, .slice none 0 0] 51))) := hbelow
    have HN : Hid ((a ++ 96 :: r).length ≤ 1048576) := hn
    clear hfresh hbelow hn cP
    go_loopg [6] (a ++ 96 :: r).length (fun g qv wr => ∃ d q, a ++ 96 :: r = d ++ q ∧ g = q.length ∧ qv = .string (str (dbl q ++ 96 :: t)) ∧ Lib.IsBuilder 51 5 w'.heap.size w'.heap.size (Lib.byteCells d) wr ∧ Below w'.heap.size w' wr)
    case atStart => exact ⟨[], a ++ 96 :: r, rfl, rfl, rfl, HF.out, HW.out⟩
    case round =>
      obtain ⟨d, q, hdq, hg, rfl, hB, hW⟩ := hrel
      have HDQ : Hid (a ++ 96 :: r = d ++ q) := hdq
      have HG : Hid (gk = q.length) := hg
      have HB : Hid (Lib.IsBuilder 51 5 w'.heap.size w'.heap.size (Lib.byteCells d) wr) := hB
      have HWr : Hid (Below w'.heap.size w' wr) := hW
      have hL : d.length + q.length ≤ 1048576 := by have := HN.out; rw [hdq, List.length_append] at this; exact this
      clear hdq hg hB hW
      have hq : q.length ≤ 1048576 := by omega
      have HL : Hid (d.length + q.length ≤ 1048576) := hL
      clear hL
      rcases first_or q with hnq | ⟨a', q', rfl, hnq⟩
      · go_wp2_with fail
        refine (cC.out q _ hq HWr.out).mono ?_
        rw [cut_last q t hnq]
        rintro e w1 ⟨rfl, k1, rfl⟩
        go_wp2_with fail
        refine (writeString_any w'.heap.size w'.heap.size (Lib.byteCells d) (str q) (wr.drewN k1) HB.out (by have := HL.out; rw [Lib.byteCells_length, str_size]; omega) HWr.out.size).mono ?_
        rintro e w2 ⟨rfl, hB2, hb2⟩
        have HB2 : Hid (Lib.IsBuilder 51 5 w'.heap.size w'.heap.size (Lib.byteCells (d ++ q)) w2) := by
          show Lib.IsBuilder _ _ _ _ _ _
          rw [cells_append]
          exact Or.inr hB2
        have HW2 : Hid (Below w'.heap.size w' w2) := (below_N HWr.out k1).trans hb2
        clear hB2 hb2
        go_wp2_with (go_at_call 32; refine (cH0.out _).mono ?_; rintro e wq ⟨rfl, rfl⟩)
        refine (Tryd.Builder_String_any w'.heap.size w'.heap.size (d ++ q) wq HB2.out HW2.out.size).mono ?_
        rintro e w4 ⟨rfl, hb4⟩
        have HW4 : Hid (Below w'.heap.size w' w4) := HW2.out.trans hb4
        clear hb4
        go_wp2
        go_ret2
        refine ⟨?_, HW4.out⟩
        rw [HDQ.out]
        rfl
      · go_wp2_with fail
        refine (cC.out _ _ hq HWr.out).mono ?_
        rw [cut_mid a' q' t hnq]
        rintro e w1 ⟨rfl, k1, rfl⟩
        go_wp2_with fail
        refine (writeString_any w'.heap.size w'.heap.size (Lib.byteCells d) (str a') (wr.drewN k1) HB.out (by have := HL.out; rw [Lib.byteCells_length, str_size]; simp at this; omega) HWr.out.size).mono ?_
        rintro e w2 ⟨rfl, hB2, hb2⟩
        have HB2 : Hid (Lib.IsBuilder 51 5 w'.heap.size w'.heap.size (Lib.byteCells (d ++ a')) w2) := by
          show Lib.IsBuilder _ _ _ _ _ _
          rw [cells_append]
          exact Or.inr hB2
        have HW2 : Hid (Below w'.heap.size w' w2) := (below_N HWr.out k1).trans hb2
        clear hB2 hb2
        go_wp2_with (go_at_call 32; refine (cH1.out _ _).mono ?_; rintro e wq ⟨rfl, rfl⟩)
        refine (writeByte_any w'.heap.size w'.heap.size (Lib.byteCells (d ++ a')) 96 wq HB2.out (by have := HL.out; rw [Lib.byteCells_length]; simp at this ⊢; omega) HW2.out.size).mono ?_
        rintro e w4 ⟨rfl, hB4, hb4⟩
        have HB4 : Hid (Lib.IsBuilder 51 5 w'.heap.size w'.heap.size (Lib.byteCells (d ++ a' ++ [96])) w4) := by
          show Lib.IsBuilder _ _ _ _ _ _
          rw [cells_append]
          exact Or.inr hB4
        have HW4 : Hid (Below w'.heap.size w' w4) := HW2.out.trans hb4
        clear hB4 hb4
        have HST : Hid ((str (96 :: (dbl q' ++ 96 :: t))).extract 1 ((dbl q').length + (t.length + 1) + 1) = str (dbl q' ++ 96 :: t)) := by
          show _ = _
          have e : (str (96 :: (dbl q' ++ 96 :: t))).size = (dbl q').length + (t.length + 1) + 1 := by rw [str_size]; simp
          rw [← e]
          exact str_tail 96 _
        go_wp2_with fail
        go_roundg q'.length
        case measure => have := HG.out; simp at this; omega
        case rel => exact ⟨d ++ a' ++ [96], q', by rw [HDQ.out]; simp, rfl, congrArg Value.string HST.out, HB4.out, HW4.out⟩
end Go.Proofs.Qxb6606157aDoor
