import Derived.Test.Qxb6606017aFmtWalkA
import Derived.Deep.Cut
namespace Go.Proofs.Qxb6606017aFmt
open Go.RowKit Go.PlainAid
section
variable {P : Program} {ops : Array Oper} {Q : Exit → Act → World → Prop} {a : Act} {w : World} {rest : List Oper} {o : Oper}

theorem chain_run {v : Value} (hw : Region.wanted o (yielded ops a.tmps) = true) (hr : (execOp a.eval o).run P w = .ok (.value v) w) (h : wpList P ops Q rest (a.put o.dst v) w) : wpList P ops Q (o :: rest) a w :=
  wpList_step fun K hK => by
    rw [if_pos hw]
    unfold Oper.wp
    rw [hr]
    exact hK _ _ h
section
variable {ev : Operand → Value} {d : Option Nat} {t : TypeId} {pos : String} {f : Array Edge} {g : Option (Nat × Bool)}
theorem run_move (x : Operand) {v : Value} (h : ev x = v) : (execOp ev ⟨d, .move x, t, pos, f, g⟩).run P w = .ok (.value v) w := by
  subst h; go_simp
theorem run_assign (x : Operand) {v : Value} (h : ev x = v) : (execOp ev ⟨d, .assign x, t, pos, f, g⟩).run P w = .ok (.value v) w := by
  subst h; go_simp
theorem run_leq {x y : Operand} {c r : Int} (h : ev x = .int .i32 c) (h' : ev y = .int .i32 r) : (execOp ev ⟨d, .binOp .leq 21 x y 21, t, pos, f, g⟩).run P w = .ok (.value (.bool (decide (c ≤ r)))) w := by
  go_simp
theorem run_eql {x y : Operand} {c r : Int} (h : ev x = .int .i32 c) (h' : ev y = .int .i32 r) : (execOp ev ⟨d, .binOp .eql 21 x y 21, t, pos, f, g⟩).run P w = .ok (.value (.bool (c == r))) w := by
  go_simp
theorem run_pick {c x y : Operand} {b : Bool} (h : ev c = .bool b) : (execOp ev ⟨d, .pick c x y, t, pos, f, g⟩).run P w = .ok (.value (if b then ev x else ev y)) w := by
  cases b <;> go_simp
end

attribute [local simp] Region.wanted yielded Act.put Act.eval undef Array.getElem?_setIfInBounds Array.getD_eq_getD_getElem?
/-- Rune r is given, and slot j holds this truth value. -/
def Holds (a : Act) (r : Int) (n j : Nat) (b : Bool) : Prop := a.tmps.size = n ∧ a.tmps[0]? = some (.int .i32 r) ∧ a.defers = [] ∧ a.tmps[j]? = some (.bool b)

theorem chain_range {r lo hi : Int} {n j i0 i1 : Nat} {b : Bool} {t0 t1 t2 t3 t4 t5 t6 : TypeId} {p0 p1 p2 p3 p4 p5 p6 : String} {f0 f1 f2 f3 f4 f5 f6 : Array Edge}
    (H : Holds a r n j b) (hj : 0 < j) (hn : j + 7 < n) (h0 : (ops[i0]?).bind (·.dst) = some j) (h1 : (ops[i1]?).bind (·.dst) = some (j + 3))
    (h : ∀ a', Holds a' r n (j + 7) (b || decide (lo ≤ r ∧ r ≤ hi)) → wpList P ops Q rest a' w) :
    wpList P ops Q (⟨some (j + 1), .move (.tmp 0), t0, p0, f0, some (i0, false)⟩ :: ⟨some (j + 2), .binOp .leq 21 (.const (.int .i32 lo)) (.tmp (j + 1)) 21, t1, p1, f1, some (i0, false)⟩ ::
      ⟨some (j + 3), .move (.tmp (j + 2)), t2, p2, f2, some (i0, false)⟩ :: ⟨some (j + 4), .move (.tmp 0), t3, p3, f3, some (i1, true)⟩ :: ⟨some (j + 5), .binOp .leq 21 (.tmp (j + 4)) (.const (.int .i32 hi)) 21, t4, p4, f4, some (i1, true)⟩ ::
      ⟨some (j + 6), .pick (.tmp (j + 3)) (.tmp (j + 5)) (.const (.bool false)), t5, p5, f5, some (i0, false)⟩ :: ⟨some (j + 7), .pick (.tmp j) (.const (.bool true)) (.tmp (j + 6)), t6, p6, f6, none⟩ :: rest) a w := by
  obtain ⟨hs, hr, hd, hb⟩ := H
  have hj' : j ≠ 0 := by omega
  have l1 : j + 1 < n := by omega
  have l2 : j + 2 < n := by omega
  have l3 : j + 3 < n := by omega
  have l4 : j + 4 < n := by omega
  have l5 : j + 5 < n := by omega
  have l6 : j + 6 < n := by omega
  have l7 : j + 7 < n := by omega
  cases b with
  | true =>
    refine wpList_skip (by simp [*]) ?_
    refine wpList_skip (by simp [*]) ?_
    refine wpList_skip (by simp [*]) ?_
    refine wpList_skip (by simp [*]) ?_
    refine wpList_skip (by simp [*]) ?_
    refine wpList_skip (by simp [*]) ?_
    refine chain_run rfl (run_pick (b := true) (by simp [*])) ?_
    exact h _ ⟨by simp [*], by simp [*], by simp [*], by simp [*]⟩
  | false =>
    refine chain_run (by simp [*]) (run_move _ (v := .int .i32 r) (by simp [*])) ?_
    refine chain_run (by simp [*]) (run_leq (c := lo) (r := r) rfl (by simp [*])) ?_
    refine chain_run (by simp [*]) (run_move _ (v := .bool (decide (lo ≤ r))) (by simp [*])) ?_
    cases hlo : decide (lo ≤ r) with
    | false =>
      refine wpList_skip (by simp [*]) ?_
      refine wpList_skip (by simp [*]) ?_
      refine chain_run (by simp [*]) (run_pick (b := false) (by simp [*])) ?_
      refine chain_run rfl (run_pick (b := false) (by simp [*])) ?_
      refine h _ ⟨by simp [*], by simp [*], by simp [*], ?_⟩
      have : ¬ lo ≤ r := of_decide_eq_false hlo
      simp [*]
    | true =>
      have hlo' : lo ≤ r := of_decide_eq_true hlo
      refine chain_run (by simp [*]) (run_move _ (v := .int .i32 r) (by simp [*])) ?_
      refine chain_run (by simp [*]) (run_leq (c := r) (r := hi) (by simp [*]) rfl) ?_
      refine chain_run (by simp [*]) (run_pick (b := true) (by simp [*])) ?_
      refine chain_run rfl (run_pick (b := false) (by simp [*])) ?_
      refine h _ ⟨by simp [*], by simp [*], by simp [*], ?_⟩
      simp [*]

theorem chain_one {r c : Int} {n j i0 : Nat} {b : Bool} {t0 t1 t2 : TypeId} {p0 p1 p2 : String} {f0 f1 f2 : Array Edge}
    (H : Holds a r n j b) (hj : 0 < j) (hn : j + 3 < n) (h0 : (ops[i0]?).bind (·.dst) = some j)
    (h : ∀ a', Holds a' r n (j + 3) (b || decide (r = c)) → wpList P ops Q rest a' w) :
    wpList P ops Q (⟨some (j + 1), .move (.tmp 0), t0, p0, f0, some (i0, false)⟩ :: ⟨some (j + 2), .binOp .eql 21 (.tmp (j + 1)) (.const (.int .i32 c)) 21, t1, p1, f1, some (i0, false)⟩ ::
      ⟨some (j + 3), .pick (.tmp j) (.const (.bool true)) (.tmp (j + 2)), t2, p2, f2, none⟩ :: rest) a w := by
  obtain ⟨hs, hr, hd, hb⟩ := H
  have hj' : j ≠ 0 := by omega
  have l1 : j + 1 < n := by omega
  have l2 : j + 2 < n := by omega
  have l3 : j + 3 < n := by omega
  cases b with
  | true =>
    refine wpList_skip (by simp [*]) ?_
    refine wpList_skip (by simp [*]) ?_
    refine chain_run rfl (run_pick (b := true) (by simp [*])) ?_
    exact h _ ⟨by simp [*], by simp [*], by simp [*], by simp [*]⟩
  | false =>
    refine chain_run (by simp [*]) (run_move _ (v := .int .i32 r) (by simp [*])) ?_
    refine chain_run (by simp [*]) (run_eql (c := r) (r := c) (by simp [*]) rfl) ?_
    refine chain_run rfl (run_pick (b := false) (by simp [*])) ?_
    refine h _ ⟨by simp [*], by simp [*], by simp [*], ?_⟩
    have : (r == c) = decide (r = c) := rfl
    simp [*]
theorem chain_move {r : Int} {n j : Nat} {b : Bool} {t0 : TypeId} {p0 : String} {f0 : Array Edge} (H : Holds a r n j b) (hn : j + 1 < n)
    (h : ∀ a', Holds a' r n (j + 1) b → wpList P ops Q rest a' w) : wpList P ops Q (⟨some (j + 1), .move (.tmp j), t0, p0, f0, none⟩ :: rest) a w := by
  obtain ⟨hs, hr, hd, hb⟩ := H
  refine chain_run rfl (run_move _ (v := .bool b) (by simp [*])) ?_
  exact h _ ⟨by simp [*], by simp [*], by simp [*], by simp [*]⟩
theorem chain_abs (r : Int) (n j : Nat) (b : Bool) (H : Holds a r n j b) (h : ∀ a', Holds a' r n j b → wpList P ops Q rest a' w) : wpList P ops Q rest a w := h a H
theorem chain_end {r : Int} {n j : Nat} {b : Bool} {t0 : TypeId} {p0 : String} {f0 : Array Edge} (H : Holds a r n j b) (hn : 2 < n)
    (h : ∀ a', Holds a' r n 2 b → wpList P ops Q rest a' w) : wpList P ops Q (⟨some 2, .assign (.tmp j), t0, p0, f0, none⟩ :: rest) a w := by
  obtain ⟨hs, hr, hd, hb⟩ := H
  refine chain_run rfl (run_assign _ (v := .bool b) (by simp [*])) ?_
  exact h _ ⟨by simp [*], by simp [*], by simp [*], by simp [*]⟩
end

set_option maxRecDepth 20000 in
theorem zzXMLNameStartChar_any (r : Int) (w : World) : Calls Tryf.prog 36 #[.int .i32 r] w fun e w' => e = .returned (.bool (xStart r)) ∧ w' = w := by
  go_enter Tryf.func36, Tryf.ntmps36
  go_upto_region 1 with fail
  rename_i K hK
  apply wp_region_lit
  refine chain_run rfl (run_move _ (v := .int .i32 r) rfl) ?_
  refine chain_run rfl (run_eql (c := r) (r := 58) rfl rfl) ?_
  refine chain_run rfl (run_move _ (v := .bool (r == 58)) rfl) ?_
  refine chain_abs r 121 5 (r == 58) ⟨by rfl, by rfl, by rfl, by rfl⟩ ?_
  intro A H
  refine chain_range (j := 5) (lo := 65) (hi := 90) H (by decide) (by decide) (by rfl) (by rfl) ?_
  clear H; clear A; intro A H
  refine chain_move (j := 12) H (by decide) ?_
  clear H; clear A; intro A H
  refine chain_one (j := 13) (c := 95) H (by decide) (by decide) (by rfl) ?_
  clear H; clear A; intro A H
  refine chain_move (j := 16) H (by decide) ?_
  clear H; clear A; intro A H
  refine chain_range (j := 17) (lo := 97) (hi := 122) H (by decide) (by decide) (by rfl) (by rfl) ?_
  clear H; clear A; intro A H
  refine chain_move (j := 24) H (by decide) ?_
  clear H; clear A; intro A H
  refine chain_range (j := 25) (lo := 192) (hi := 214) H (by decide) (by decide) (by rfl) (by rfl) ?_
  clear H; clear A; intro A H
  refine chain_move (j := 32) H (by decide) ?_
  clear H; clear A; intro A H
  refine chain_range (j := 33) (lo := 216) (hi := 246) H (by decide) (by decide) (by rfl) (by rfl) ?_
  clear H; clear A; intro A H
  refine chain_move (j := 40) H (by decide) ?_
  clear H; clear A; intro A H
  refine chain_range (j := 41) (lo := 248) (hi := 767) H (by decide) (by decide) (by rfl) (by rfl) ?_
  clear H; clear A; intro A H
  refine chain_move (j := 48) H (by decide) ?_
  clear H; clear A; intro A H
  refine chain_range (j := 49) (lo := 880) (hi := 893) H (by decide) (by decide) (by rfl) (by rfl) ?_
  clear H; clear A; intro A H
  refine chain_move (j := 56) H (by decide) ?_
  clear H; clear A; intro A H
  refine chain_range (j := 57) (lo := 895) (hi := 8191) H (by decide) (by decide) (by rfl) (by rfl) ?_
  clear H; clear A; intro A H
  refine chain_move (j := 64) H (by decide) ?_
  clear H; clear A; intro A H
  refine chain_range (j := 65) (lo := 8204) (hi := 8205) H (by decide) (by decide) (by rfl) (by rfl) ?_
  clear H; clear A; intro A H
  refine chain_move (j := 72) H (by decide) ?_
  clear H; clear A; intro A H
  refine chain_range (j := 73) (lo := 8304) (hi := 8591) H (by decide) (by decide) (by rfl) (by rfl) ?_
  clear H; clear A; intro A H
  refine chain_move (j := 80) H (by decide) ?_
  clear H; clear A; intro A H
  refine chain_range (j := 81) (lo := 11264) (hi := 12271) H (by decide) (by decide) (by rfl) (by rfl) ?_
  clear H; clear A; intro A H
  refine chain_move (j := 88) H (by decide) ?_
  clear H; clear A; intro A H
  refine chain_range (j := 89) (lo := 12289) (hi := 55295) H (by decide) (by decide) (by rfl) (by rfl) ?_
  clear H; clear A; intro A H
  refine chain_move (j := 96) H (by decide) ?_
  clear H; clear A; intro A H
  refine chain_range (j := 97) (lo := 63744) (hi := 64975) H (by decide) (by decide) (by rfl) (by rfl) ?_
  clear H; clear A; intro A H
  refine chain_move (j := 104) H (by decide) ?_
  clear H; clear A; intro A H
  refine chain_range (j := 105) (lo := 65008) (hi := 65533) H (by decide) (by decide) (by rfl) (by rfl) ?_
  clear H; clear A; intro A H
  refine chain_move (j := 112) H (by decide) ?_
  clear H; clear A; intro A H
  refine chain_range (j := 113) (lo := 65536) (hi := 983039) H (by decide) (by decide) (by rfl) (by rfl) ?_
  clear H; clear A; intro A H
  refine chain_end (j := 120) H (by decide) ?_
  clear H; clear A; intro A H
  refine wpList_nil (hK _ _ ?_)
  refine wp_ret ?_
  obtain ⟨hs, hr, hd, hb⟩ := H
  refine ⟨hd, _, ?_, ⟨rfl, rfl⟩⟩
  rw [results_tmp rfl]
  simp only [Array.getD_eq_getD_getElem?, hb]
  rfl

set_option maxRecDepth 20000 in
theorem zzXMLNameChar_any (r : Int) (w : World) : Calls Tryf.prog 37 #[.int .i32 r] w fun e w' => e = .returned (.bool (xChar r)) ∧ w' = w := by
  go_enter Tryf.func37, Tryf.ntmps37
  go_upto_region 1 with fail
  rename_i K hK
  apply wp_region_lit
  refine chain_run rfl (run_move _ (v := .int .i32 r) rfl) ?_
  refine wpList_plain rfl fun K1 hK1 => ?_
  go_simp
  refine (zzXMLNameStartChar_any r w).mono ?_
  rintro e w' ⟨rfl, rfl⟩
  refine hK1 _ _ ?_
  refine chain_run rfl (run_move _ (v := .bool (xStart r)) rfl) ?_
  refine chain_abs r 41 5 (xStart r) ⟨by rfl, by rfl, by rfl, by rfl⟩ ?_
  intro A H
  refine chain_one (j := 5) (c := 45) H (by decide) (by decide) (by rfl) ?_
  clear H; clear A; intro A H
  refine chain_move (j := 8) H (by decide) ?_
  clear H; clear A; intro A H
  refine chain_one (j := 9) (c := 46) H (by decide) (by decide) (by rfl) ?_
  clear H; clear A; intro A H
  refine chain_move (j := 12) H (by decide) ?_
  clear H; clear A; intro A H
  refine chain_range (j := 13) (lo := 48) (hi := 57) H (by decide) (by decide) (by rfl) (by rfl) ?_
  clear H; clear A; intro A H
  refine chain_move (j := 20) H (by decide) ?_
  clear H; clear A; intro A H
  refine chain_one (j := 21) (c := 183) H (by decide) (by decide) (by rfl) ?_
  clear H; clear A; intro A H
  refine chain_move (j := 24) H (by decide) ?_
  clear H; clear A; intro A H
  refine chain_range (j := 25) (lo := 768) (hi := 879) H (by decide) (by decide) (by rfl) (by rfl) ?_
  clear H; clear A; intro A H
  refine chain_move (j := 32) H (by decide) ?_
  clear H; clear A; intro A H
  refine chain_range (j := 33) (lo := 8255) (hi := 8256) H (by decide) (by decide) (by rfl) (by rfl) ?_
  clear H; clear A; intro A H
  refine chain_end (j := 40) H (by decide) ?_
  clear H; clear A; intro A H
  refine wpList_nil (hK _ _ ?_)
  refine wp_ret ?_
  obtain ⟨hs, hr, hd, hb⟩ := H
  refine ⟨hd, _, ?_, ⟨rfl, rfl⟩⟩
  rw [results_tmp rfl]
  simp only [Array.getD_eq_getD_getElem?, hb]
  rfl
end Go.Proofs.Qxb6606017aFmt
