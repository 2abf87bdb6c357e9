import Derived.Test.Qxb6606142aDoorBld
import Derived.Lib.AppendStr
import Derived.Laws.BytesArg
import Derived.Deep.RegionHeld3
namespace Go.Proofs.Qxb6606142aDoor
open Go.RowKit Go.PlainAid

/-- An append whose run is known. -/
theorem wp_append_run {P : Program} {w : World} {o : Oper} {a : Act} {K : Act → World → Prop} {Q : Exit → Act → World → Prop} (s x : Operand) (t u : TypeId)
    (ho : o.op = .call { callee := .builtin .append, args := #[s, x], argTypes := #[t, u] }) (v xv v' : Value) (w' : World) (hs : a.eval s = v) (hx : a.eval x = xv)
    (hr : (Builtin.append_ #[t, u] o.type #[v, xv]).run P w = .ok v' w') (h : K (a.put o.dst v') w') : o.wp P a w K Q := by
  unfold Oper.wp execOp
  simp only [ho, resolve, invoke, builtin, Sem.run_bind, Sem.run_pure, Result.andThen_ok, List.map_toArray, List.map_cons, List.map_nil, hs, hx, hr]
  exact h
theorem wpList_append_run {P : Program} {w : World} {ops : Array Oper} {rest : List Oper} {o : Oper} {a : Act} {Q : Exit → Act → World → Prop} (hgd : o.guard = none) (s x : Operand) (t u : TypeId)
    (ho : o.op = .call { callee := .builtin .append, args := #[s, x], argTypes := #[t, u] }) (v xv v' : Value) (w' : World) (hs : a.eval s = v) (hx : a.eval x = xv)
    (hr : (Builtin.append_ #[t, u] o.type #[v, xv]).run P w = .ok v' w') (h : wpList P ops Q rest (a.put o.dst v') w') : wpList P ops Q (o :: rest) a w :=
  wpList_plain hgd fun _ hK => wp_append_run s x t u ho v xv v' w' hs hx hr (hK _ _ h)
/-- .. at a step of a region that draws its order. -/
theorem step_append_run {P : Program} {w : World} {ops : Array Oper} {o : Oper} {a : Act} {K : Act → World → Prop} {Q : Exit → Act → World → Prop} {E : Prop} (hgd : o.guard = none) (s x : Operand) (t u : TypeId)
    (ho : o.op = .call { callee := .builtin .append, args := #[s, x], argTypes := #[t, u] }) (v xv v' : Value) (w' : World) (hs : a.eval s = v) (hx : a.eval x = xv)
    (hr : (Builtin.append_ #[t, u] o.type #[v, xv]).run P w = .ok v' w') (h : K (a.put o.dst v') w') :
    if Region.wanted o (yielded ops a.tmps) = true then Oper.wp P o a w K Q else E := by
  have hw : Region.wanted o (yielded ops a.tmps) = true := by simp [Region.wanted, hgd]
  rw [if_pos hw]
  exact wp_append_run s x t u ho v xv v' w' hs hx hr h

theorem info9 : ∃ i, Tryd.prog.info? 9 = some i ∧ i.zero = some (.string ⟨#[]⟩) ∧ i.size = 1 ∧ i.bytes = 16 := by
  have h : (Tryd.prog.info? 9).map (fun i => (i.zero, i.size, i.bytes)) = some (some (.string ⟨#[]⟩), 1, 16) := by kernel_rfl
  obtain ⟨i, hi, he⟩ := Option.map_eq_some_iff.1 h
  simp only [Prod.mk.injEq] at he
  exact ⟨i, hi, he.1, he.2.1, he.2.2⟩
theorem info5 : ∃ i, Tryd.prog.info? 5 = some i ∧ i.zero = some (.int .u8 0) ∧ i.size = 1 ∧ i.bytes = 1 := by
  have h : (Tryd.prog.info? 5).map (fun i => (i.zero, i.size, i.bytes)) = some (some (.int .u8 0), 1, 1) := by kernel_rfl
  obtain ⟨i, hi, he⟩ := Option.map_eq_some_iff.1 h
  simp only [Prod.mk.injEq] at he
  exact ⟨i, hi, he.1, he.2.1, he.2.2⟩
theorem below_N {B : Nat} {a w : World} (h : Below B a w) (n : Nat) : Below B a (w.drewN n) := ⟨h.os, h.tape, h.output, h.size, h.block⟩

/-! ### slices of strings of the call's own -/
def Strs (B : Nat) (v : Value) (xs : List ByteArray) (w : World) : Prop := w.ownsRow B 9 1 v xs.length (xs.map Value.string)
theorem strs_nil (B : Nat) (w : World) : Strs B (.slice none 0 0) [] w := World.ownsRow_nil _ _ _ _
theorem Strs.grown {B : Nat} {v : Value} {xs : List ByteArray} {w w' : World} (h : Strs B v xs w) (hg : Below w.heap.size w w') : Strs B v xs w' :=
  h.kept (row := none) ⟨hg.os, hg.tape, hg.output, hg.size, fun k hk _ => hg.block k hk⟩ (by cases hv : v.ownBlock <;> simp)
theorem Strs.form {B : Nat} {v : Value} {xs : List ByteArray} {w : World} (h : Strs B v xs w) (hx : xs ≠ []) : ∃ g cap, v = .slice (some ⟨g, 0, none⟩) xs.length cap ∧ B ≤ g ∧ g < w.heap.size ∧ xs.length ≤ cap ∧ ∀ j (hj : j < xs.length), w.cell? ⟨g, j, none⟩ = some (.string xs[j]) := by
  have h1 := h
  rcases h.2 with ⟨_, h4⟩ | ⟨g, cap, cur, hv, hb, hg, hn, _⟩
  · exact absurd (List.eq_nil_of_length_eq_zero h4) hx
  · refine ⟨g, cap, hv, hb, (Array.getElem?_eq_some_iff.1 hg).1, by omega, fun j hj => ?_⟩
    have := h1.cells (g := g) (by rw [hv]; rfl) j (.string xs[j]) (by rw [List.getElem?_map, List.getElem?_eq_getElem hj]; rfl)
    rw [Addr.add_lit] at this
    simpa using this
theorem strs_below {B : Nat} {v : Value} {xs : List ByteArray} {w w' : World} (h : Strs B v xs w) (hg : w.grownBy w' v.ownBlock) (hb : B ≤ w.heap.size) : Below B w w' :=
  ⟨hg.os, hg.tape, hg.output, hg.size, fun k hk => hg.block k (by omega) (fun e => by have := (World.ownsRow.lt h k e.symm).1; omega)⟩
/-- 'append(tokens, x)', x in a new block. -/
theorem strs_push {B : Nat} {v : Value} {xs : List ByteArray} {w : World} (x : ByteArray) (h : Strs B v xs w) (hb : B ≤ w.heap.size) (hn : xs.length ≤ 4194304) :
    ∃ v' w', (Builtin.append_ #[22, 22] 22 #[v, .slice (some ⟨w.heap.size, 0, none⟩) 1 1]).run Tryd.prog (w.alloc (.cells #[.string x] 9)) = .ok v' w' ∧ Strs B v' (xs ++ [x]) w' ∧ Below B w w' := by
  obtain ⟨i, hi, hz, h1, h2⟩ := info9
  have h' := h.grown ((Below.refl _ _).alloc (Nat.le_refl _) (.cells #[.string x] 9))
  obtain ⟨v', w', hr, ho, hg, _⟩ := run_append_own (P := Tryd.prog) (w.alloc (.cells #[.string x] 9)) B 22 22 9 i (.string ⟨#[]⟩) 1 16 Tryd.underlying22 hi hz h1 h2 rfl (by decide) v xs.length _ h'
    ⟨w.heap.size, 0, none⟩ 1 1 [.string x] rfl (fun j u hj => by
      match j, hj with
      | 0, hj => simp at hj; subst hj; simp [Addr.add]) (fun u hu => by simp at hu; subst hu; rfl) (by unfold maxLen; omega) (by omega) (by simp; omega)
  refine ⟨v', w', hr, by unfold Strs; simpa using ho, ?_⟩
  exact ((Below.refl _ _).alloc hb _).trans (strs_below h' hg (by simp; omega))

/-! ### slices of bytes of the call's own -/
def Byts (B : Nat) (v : Value) (l : List UInt8) (w : World) : Prop := w.ownsRow B 5 1 v l.length (Lib.byteCells l)
theorem byts_nil (B : Nat) (w : World) : Byts B (.slice none 0 0) [] w := World.ownsRow_nil _ _ _ _
theorem Byts.grown {B : Nat} {v : Value} {l : List UInt8} {w w' : World} (h : Byts B v l w) (hg : Below w.heap.size w w') : Byts B v l w' :=
  h.kept (row := none) ⟨hg.os, hg.tape, hg.output, hg.size, fun k hk _ => hg.block k hk⟩ (by cases hv : v.ownBlock <;> simp)
theorem byts_below {B : Nat} {v : Value} {l : List UInt8} {w w' : World} (h : Byts B v l w) (hg : w.grownBy w' v.ownBlock) (hb : B ≤ w.heap.size) : Below B w w' :=
  ⟨hg.os, hg.tape, hg.output, hg.size, fun k hk => hg.block k (by omega) (fun e => by have := (World.ownsRow.lt h k e.symm).1; omega)⟩
/-- 'append(buf, c)', the byte in a new block. -/
theorem byts_push {B : Nat} {v : Value} {l : List UInt8} {w : World} (c : UInt8) (h : Byts B v l w) (hb : B ≤ w.heap.size) (hn : l.length ≤ 16777216) :
    ∃ v' w', (Builtin.append_ #[25, 25] 25 #[v, .slice (some ⟨w.heap.size, 0, none⟩) 1 1]).run Tryd.prog (w.alloc (.cells #[.int .u8 c.toNat] 5)) = .ok v' w' ∧ Byts B v' (l ++ [c]) w' ∧ Below B w w' := by
  obtain ⟨i, hi, hz, h1, h2⟩ := info5
  have h' := h.grown ((Below.refl _ _).alloc (Nat.le_refl _) (.cells #[.int .u8 c.toNat] 5))
  obtain ⟨v', w', hr, ho, hg, _⟩ := run_append_own (P := Tryd.prog) (w.alloc (.cells #[.int .u8 c.toNat] 5)) B 25 25 5 i (.int .u8 0) 1 1 Tryd.underlying25 hi hz h1 h2 rfl (by decide) v l.length _ h'
    ⟨w.heap.size, 0, none⟩ 1 1 [.int .u8 c.toNat] rfl (fun j u hj => by
      match j, hj with
      | 0, hj => simp at hj; subst hj; simp [Addr.add]) (fun u hu => by simp at hu; subst hu; rfl) (by unfold maxLen; omega) (by omega) (by simp; omega)
  refine ⟨v', w', hr, ?_, ?_⟩
  · unfold Byts
    have e : Lib.byteCells (l ++ [c]) = Lib.byteCells l ++ [.int .u8 c.toNat] := by simp [Lib.byteCells]
    rw [e]
    simpa using ho
  · exact ((Below.refl _ _).alloc hb _).trans (byts_below h' hg (by simp; omega))
/-- 'string(buf)'. -/
theorem byts_text {B : Nat} {v : Value} {l : List UInt8} {w : World} (h : Byts B v l w) (hl : l ≠ []) : (convert 25 9 v).run Tryd.prog w = .ok (.string ⟨l.toArray⟩) w := by
  have h1 := h
  rcases h.2 with ⟨_, h4⟩ | ⟨g, cap, cur, hv, hb, hg, hn, _⟩
  · exact absurd (List.eq_nil_of_length_eq_zero h4) hl
  · subst hv
    have := run_convert_bytes_arg w 25 5 Tryd.underlying25 Tryd.underlying5 g 0 l.length cap (l.map fun b => (b.toNat : Int)) (by simp) (fun i hi => by
      have := h1.cells (g := g) rfl i (.int .u8 ((l.map fun b => (b.toNat : Int)).getD i 0)) (by
        unfold Lib.byteCells
        rw [List.getElem?_map, List.getD, List.getElem?_map, List.getElem?_eq_getElem hi]
        rfl)
      rw [Addr.add_lit] at this
      exact this) 9 Tryd.underlying9
    rw [this]
    congr 2
    apply ByteArray.ext
    apply Array.toList_inj.1
    rw [strOfNums_data, List.map_map]
    refine (List.map_congr_left (g := id) (fun b _ => ?_)).trans (List.map_id l)
    simp
end Go.Proofs.Qxb6606142aDoor
