import Derived.Test.Qxb6606017aFmtProg
import Derived.WalkKit
import Derived.Lib.AppendStr
import Derived.WalkSmall
import Derived.Laws.BytesArg
namespace Go.Proofs.Qxb6606017aFmt
open Go.RowKit

/-- An append whose run is known. -/
theorem wp_append_run {P : Program} {w : World} {o : Oper} {a : Act} {K : Act → World → Prop} {Q : Exit → Act → World → Prop} (s x : Operand) (t u : TypeId)
    (ho : o.op = .call { callee := .builtin .append, args := #[s, x], argTypes := #[t, u] }) (v xv v' : Value) (w' : World) (hs : a.eval s = v) (hx : a.eval x = xv)
    (hr : (Builtin.append_ #[t, u] o.type #[v, xv]).run P w = .ok v' w') (h : K (a.put o.dst v') w') : o.wp P a w K Q := by
  unfold Oper.wp execOp
  simp only [ho, resolve, invoke, builtin, Sem.run_bind, Sem.run_pure, Result.andThen_ok, List.map_toArray, List.map_cons, List.map_nil, hs, hx, hr]
  exact h
theorem wpList_append_run {P : Program} {w : World} {ops : Array Oper} {rest : List Oper} {o : Oper} {a : Act} {Q : Exit → Act → World → Prop} (hgd : o.guard = none) (s x : Operand) (t u : TypeId)
    (ho : o.op = .call { callee := .builtin .append, args := #[s, x], argTypes := #[t, u] }) (v xv v' : Value) (w' : World) (hs : a.eval s = v) (hx : a.eval x = xv)
    (hr : (Builtin.append_ #[t, u] o.type #[v, xv]).run P w = .ok v' w') (h : wpList P ops Q rest (a.put o.dst v') w') : wpList P ops Q (o :: rest) a w :=
  wpList_plain hgd fun _ hK => wp_append_run s x t u ho v xv v' w' hs hx hr (hK _ _ h)
/-- .. at a step of a region that draws its order. -/
theorem step_append_run {P : Program} {w : World} {ops : Array Oper} {o : Oper} {a : Act} {K : Act → World → Prop} {Q : Exit → Act → World → Prop} {E : Prop} (hgd : o.guard = none) (s x : Operand) (t u : TypeId)
    (ho : o.op = .call { callee := .builtin .append, args := #[s, x], argTypes := #[t, u] }) (v xv v' : Value) (w' : World) (hs : a.eval s = v) (hx : a.eval x = xv)
    (hr : (Builtin.append_ #[t, u] o.type #[v, xv]).run P w = .ok v' w') (h : K (a.put o.dst v') w') :
    if Region.wanted o (yielded ops a.tmps) = true then Oper.wp P o a w K Q else E := by
  have hw : Region.wanted o (yielded ops a.tmps) = true := by simp [Region.wanted, hgd]
  rw [if_pos hw]
  exact wp_append_run s x t u ho v xv v' w' hs hx hr h

theorem info5 : ∃ i, Tryf.prog.info? 5 = some i ∧ i.zero = some (.int .u8 0) ∧ i.size = 1 ∧ i.bytes = 1 := by
  have h : (Tryf.prog.info? 5).map (fun i => (i.zero, i.size, i.bytes)) = some (some (.int .u8 0), 1, 1) := by kernel_rfl
  obtain ⟨i, hi, he⟩ := Option.map_eq_some_iff.1 h
  simp only [Prod.mk.injEq] at he
  exact ⟨i, hi, he.1, he.2.1, he.2.2⟩

/-- A slice of n bytes of the call's own (behind block b), or nil. -/
def Buf (b : Nat) (v : Value) (n : Nat) (w : World) : Prop := ∃ zs : List Int, w.ownsRow (b + 1) 5 1 v n (zs.map (Value.int .u8))

theorem buf_nil (b : Nat) (w : World) : Buf b (.slice none 0 0) 0 w := ⟨[], World.ownsRow_nil _ _ _ _⟩
theorem Buf.form {b n : Nat} {v : Value} {w : World} (h : Buf b v n w) : (v = .slice none 0 0 ∧ n = 0) ∨ ∃ g cap, v = .slice (some ⟨g, 0, none⟩) n cap ∧ b < g ∧ g < w.heap.size := by
  obtain ⟨zs, _, h2⟩ := h
  rcases h2 with h2 | ⟨g, cap, cur, rfl, hb, hg, _⟩
  · exact Or.inl h2
  · exact Or.inr ⟨g, cap, rfl, by omega, (Array.getElem?_eq_some_iff.1 hg).1⟩
theorem Buf.grown {b n : Nat} {v : Value} {w w' : World} (h : Buf b v n w) (hg : Below w.heap.size w w') : Buf b v n w' := by
  obtain ⟨zs, h1⟩ := h
  exact ⟨zs, h1.kept (row := none) ⟨hg.os, hg.tape, hg.output, hg.size, fun k hk _ => hg.block k hk⟩ (by cases hv : v.ownBlock <;> simp)⟩
theorem grown_below {b n : Nat} {v : Value} {w w' : World} (h : Buf b v n w) (hg : w.grownBy w' v.ownBlock) (hb : b + 1 ≤ w.heap.size) : Below (b + 1) w w' := by
  obtain ⟨zs, h1⟩ := h
  exact ⟨hg.os, hg.tape, hg.output, hg.size, fun k hk => hg.block k (by omega) (fun e => by have := (h1.lt k e.symm).1; omega)⟩

/-- 'append(b, c)', the byte c in a new block. -/
theorem buf_byte {b n : Nat} {v : Value} {w : World} (c : Int) (h : Buf b v n w) (hb : b + 1 ≤ w.heap.size) (hn : n ≤ 4194304) :
    ∃ v' w', (Builtin.append_ #[22, 22] 22 #[v, .slice (some ⟨w.heap.size, 0, none⟩) 1 1]).run Tryf.prog (w.alloc (.cells #[.int .u8 c] 5)) = .ok v' w' ∧ Buf b v' (n + 1) w' ∧ Below (b + 1) w w' := by
  obtain ⟨i, hi, hz, h1, h2⟩ := info5
  have h' := h.grown ((Below.refl _ _).alloc (Nat.le_refl _) (.cells #[.int .u8 c] 5))
  obtain ⟨zs, hown⟩ := h
  have hown' := hown.alloc (.cells #[.int .u8 c] 5)
  obtain ⟨v', w', hr, ho, hg, _⟩ := run_append_own (P := Tryf.prog) (w.alloc (.cells #[.int .u8 c] 5)) (b + 1) 22 22 5 i (.int .u8 0) 1 1 Tryf.underlying22 hi hz h1 h2 rfl (by decide) v n _ hown'
    ⟨w.heap.size, 0, none⟩ 1 1 [.int .u8 c] rfl (fun j u hj => by
      match j, hj with
      | 0, hj => simp at hj; subst hj; simp [Addr.add]) (fun u hu => by simp at hu; subst hu; rfl) (by unfold maxLen; omega) (by omega) (by simp; omega)
  refine ⟨v', w', hr, ⟨zs ++ [c], by simpa using ho⟩, ?_⟩
  exact ((Below.refl _ _).alloc (by omega) _).trans (grown_below h' hg (by simp; omega))

/-- 'append(b, x...)', x a string. -/
theorem buf_str {b n : Nat} {v : Value} {w : World} (x : ByteArray) (h : Buf b v n w) (hb : b + 1 ≤ w.heap.size) (hn : n + x.size ≤ 8388608) :
    ∃ v' w', (Builtin.append_ #[22, 9] 22 #[v, .string x]).run Tryf.prog w = .ok v' w' ∧ Buf b v' (n + x.size) w' ∧ Below (b + 1) w w' ∧ (v' = .slice none 0 0 ↔ v = .slice none 0 0 ∧ x.size = 0) := by
  obtain ⟨i, hi, hz, h1, h2⟩ := info5
  have h' := h
  obtain ⟨zs, hown⟩ := h
  obtain ⟨v', w', hr, ho, hg, hv⟩ := Lib.run_append_own_string (P := Tryf.prog) w (b + 1) 22 9 22 5 i Tryf.underlying22 Tryf.underlying9 hi hz h1 h2 v n _ hown x (by unfold maxLen; omega) (by omega) hb
  refine ⟨v', w', hr, ⟨zs ++ x.data.toList.map (fun y => (y.toNat : Int)), ?_⟩, grown_below h' hg hb, hv⟩
  rw [List.map_append, List.map_map]
  exact ho

/-- 'string(b)'. -/
theorem buf_text {b n g cap : Nat} {w : World} (h : Buf b (.slice (some ⟨g, 0, none⟩) n cap) n w) : ∃ x, (convert 22 9 (.slice (some ⟨g, 0, none⟩) n cap)).run Tryf.prog w = .ok (.string x) w := by
  obtain ⟨zs, hown⟩ := h
  have hl : zs.length = n := by have := hown.1; simpa using this
  refine ⟨_, run_convert_bytes_arg w 22 5 Tryf.underlying22 Tryf.underlying5 g 0 n cap zs hl (fun i hi => ?_) 9 Tryf.underlying9⟩
  have := hown.cells (g := g) rfl i (.int .u8 (zs.getD i 0)) (by
    rw [List.getElem?_map, List.getD]
    have : i < zs.length := by omega
    simp [this])
  rw [Addr.add_lit] at this
  exact this

/-- 'make([]byte, 0, n)'. -/
theorem buf_make {b : Nat} {w : World} (n : Nat) (hn : n ≤ 4194304) (hb : b + 1 ≤ w.heap.size) :
    ∃ o, (Instr.makeSlice 22 (.int .i64 0) (.int .i64 n)).run Tryf.prog w = .ok (.slice (some ⟨w.heap.size, 0, none⟩) 0 n) (w.alloc o) ∧ Buf b (.slice (some ⟨w.heap.size, 0, none⟩) 0 n) 0 (w.alloc o) := by
  obtain ⟨i, hi, hz, h1, h2⟩ := info5
  have hr := run_make (P := Tryf.prog) w 22 5 i (.int .u8 0) Tryf.underlying22 hi hz .i64 .i64 0 n (by omega) (by omega) (by rw [h2]; omega) (by omega)
  refine ⟨_, by simpa using hr, [], ?_⟩
  refine World.ownsRow_made w _ n hb (by unfold maxLen; omega) ?_
  rw [h1]
  simp [madeCells]
end Go.Proofs.Qxb6606017aFmt
