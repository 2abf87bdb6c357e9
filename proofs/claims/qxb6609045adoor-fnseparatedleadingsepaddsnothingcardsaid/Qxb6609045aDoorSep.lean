import Derived.Test.Qxb6609045aDoorShelf
import Derived.PlainAid
import Derived.WalkKit
import Derived.WalkSpells
import Derived.WalkLawsBesides
import Derived.Handy
import Derived.Deep.LoopGhost
import Derived.Deep.RegionHeld3
import Derived.WalkSmall
namespace Go.Proofs.Qxb6609045aDoor
open Go.RowKit Go.PlainAid

/-- An append whose run is known. -/
theorem wpList_append_run {P : Program} {w : World} {ops : Array Oper} {rest : List Oper} {o : Oper} {a : Act} {Q : Exit → Act → World → Prop} (hgd : o.guard = none) (s x : Operand) (t u : TypeId)
    (ho : o.op = .call { callee := .builtin .append, args := #[s, x], argTypes := #[t, u] }) (v xv v' : Value) (w' : World) (hs : a.eval s = v) (hx : a.eval x = xv)
    (hr : (Builtin.append_ #[t, u] o.type #[v, xv]).run P w = .ok v' w') (h : wpList P ops Q rest (a.put o.dst v') w') : wpList P ops Q (o :: rest) a w :=
  wpList_plain hgd fun _ hK => by
    unfold Oper.wp execOp
    simp only [ho, resolve, invoke, builtin, Sem.run_bind, Sem.run_pure, Result.andThen_ok, List.map_toArray, List.map_cons, List.map_nil, hs, hx, hr]
    exact hK _ _ h

/-- What the library's functions read of its variables. -/
structure Vars (m : Int) (w : World) : Prop where
  maxLen : w.cell? ⟨2, 0, none⟩ = some (.int .i64 m)
  ascii : Lib.TabIs Tryd.prog w "strings.asciiSpace" .u8 Lib.asciiSpaceTab
  utf8 : Lib.Utf8Tabs 3 4 w
  white : Lib.WhiteTab 1 w

theorem lt_of_cell {w : World} {a : Addr} {v : Value} (h : w.cell? a = some v) : a.block < w.heap.size := World.block_lt_of_cell? w a h
theorem gAscii : Tryd.prog.globalNamed "strings.asciiSpace" = some 0 := by kernel_rfl
theorem Vars.below {m : Int} {w w' : World} (h : Vars m w) (hb : Below w.heap.size w w') : Vars m w' := by
  have c : ∀ {a : Addr} {v : Value}, w.cell? a = some v → w'.cell? a = some v := fun {a v} hc => (hb.cell (p := a) (lt_of_cell hc)).trans hc
  refine ⟨c h.maxLen, ?_, ⟨fun k hk => c (h.utf8.1 k hk), fun i hi => ⟨c (h.utf8.2 i hi).1, c (h.utf8.2 i hi).2⟩⟩, WhiteTab_below h.white hb⟩
  exact var?_below hb gAscii (by have := lt_of_cell h.maxLen; show 0 < w.heap.size; omega) h.ascii

theorem info9 : ∃ i, Tryd.prog.info? 9 = some i ∧ i.zero = some (.string ⟨#[]⟩) ∧ i.size = 1 ∧ i.bytes = 16 := by
  have h : (Tryd.prog.info? 9).map (fun i => (i.zero, i.size, i.bytes)) = some (some (.string ⟨#[]⟩), 1, 16) := by kernel_rfl
  obtain ⟨i, hi, he⟩ := Option.map_eq_some_iff.1 h
  simp only [Prod.mk.injEq] at he
  exact ⟨i, hi, he.1, he.2.1, he.2.2⟩

/-- A slice of strings of the call's own (from block B on); nil where it holds none. -/
def Strs (B : Nat) (v : Value) (xs : List ByteArray) (w : World) : Prop := w.ownsRow B 9 1 v xs.length (xs.map Value.string) ∧ (xs = [] → v = .slice none 0 0)
theorem strs_nil (B : Nat) (w : World) : Strs B (.slice none 0 0) [] w := ⟨World.ownsRow_nil _ _ _ _, fun _ => rfl⟩
theorem Strs.grown {B : Nat} {v : Value} {xs : List ByteArray} {w w' : World} (h : Strs B v xs w) (hg : Below w.heap.size w w') : Strs B v xs w' :=
  ⟨h.1.kept (row := none) ⟨hg.os, hg.tape, hg.output, hg.size, fun k hk _ => hg.block k hk⟩ (by cases hv : v.ownBlock <;> simp), h.2⟩
theorem Strs.mono {B B' : Nat} {v : Value} {xs : List ByteArray} {w : World} (h : Strs B v xs w) (hB : B' ≤ B) : Strs B' v xs w := by
  obtain ⟨⟨h1, h2⟩, h3⟩ := h
  refine ⟨⟨h1, ?_⟩, h3⟩
  rcases h2 with h2 | ⟨g, cap, cur, hv, hb, hg, rest⟩
  · exact Or.inl h2
  · exact Or.inr ⟨g, cap, cur, hv, Nat.le_trans hB hb, hg, rest⟩
theorem Strs.form {B : Nat} {v : Value} {xs : List ByteArray} {w : World} (h : Strs B v xs w) : (v = .slice none 0 0 ∧ xs = []) ∨ ∃ g cap, v = .slice (some ⟨g, 0, none⟩) xs.length cap ∧ B ≤ g ∧ xs ≠ [] ∧ ∀ j (hj : j < xs.length), w.cell? ⟨g, j, none⟩ = some (.string xs[j]) := by
  obtain ⟨h1, h2⟩ := h
  by_cases hx : xs = []
  · exact Or.inl ⟨h2 hx, hx⟩
  · rcases h1.2 with ⟨_, h4⟩ | ⟨g, cap, cur, hv, hb, hg, _⟩
    · exact absurd (List.eq_nil_of_length_eq_zero h4) hx
    · refine Or.inr ⟨g, cap, hv, hb, hx, fun j hj => ?_⟩
      have := h1.cells (g := g) (by rw [hv]; rfl) j (.string xs[j]) (by rw [List.getElem?_map, List.getElem?_eq_getElem hj]; rfl)
      rw [Addr.add_lit] at this
      simpa using this
theorem strs_below {B : Nat} {v : Value} {xs : List ByteArray} {w w' : World} (h : Strs B v xs w) (hg : w.grownBy w' v.ownBlock) (hb : B ≤ w.heap.size) : Below B w w' :=
  ⟨hg.os, hg.tape, hg.output, hg.size, fun k hk => hg.block k (by omega) (fun e => by have := (h.1.lt k e.symm).1; omega)⟩

/-- 'append(items, x)', x in a new block. -/
theorem strs_push {B : Nat} {v : Value} {xs : List ByteArray} {w : World} (x : ByteArray) (h : Strs B v xs w) (hb : B ≤ w.heap.size) (hn : xs.length ≤ 4194304) :
    ∃ v' w', (Builtin.append_ #[23, 23] 23 #[v, .slice (some ⟨w.heap.size, 0, none⟩) 1 1]).run Tryd.prog (w.alloc (.cells #[.string x] 9)) = .ok v' w' ∧ Strs B v' (xs ++ [x]) w' ∧ Below B w w' ∧ w.grownBy w' v.ownBlock := by
  obtain ⟨i, hi, hz, h1, h2⟩ := info9
  have h' := h.grown ((Below.refl _ _).alloc (Nat.le_refl _) (.cells #[.string x] 9))
  obtain ⟨v', w', hr, ho, hg, _⟩ := run_append_own (P := Tryd.prog) (w.alloc (.cells #[.string x] 9)) B 23 23 9 i (.string ⟨#[]⟩) 1 16 Tryd.underlying23 hi hz h1 h2 rfl (by decide) v xs.length _ h'.1
    ⟨w.heap.size, 0, none⟩ 1 1 [.string x] rfl (fun j u hj => by
      match j, hj with
      | 0, hj => simp at hj; subst hj; simp [Addr.add]) (fun u hu => by simp at hu; subst hu; rfl) (by unfold maxLen; omega) (by omega) (by simp; omega)
  have hg' : w.grownBy w' v.ownBlock := ⟨hg.os, hg.tape, hg.output, by have := hg.size; simp at this; omega, fun k hk hne => (hg.block k (by simp; omega) hne).trans (Below.heap_alloc w _ k hk)⟩
  refine ⟨v', w', hr, ⟨by simpa using ho, fun hx => by simp at hx⟩, strs_below h hg' hb, hg'⟩

/-- strings.TrimSpace, on byte arrays. -/
def trimB (x : ByteArray) : ByteArray := ⟨(Lib.trimSpaceD x.data.toList).toArray⟩
/-- The pieces that are not empty once they are trimmed. -/
def items (ps : List ByteArray) : List ByteArray := (ps.map trimB).filter fun y => !y.toList.isEmpty

theorem items_snoc (ps : List ByteArray) (i : Nat) (h : i < ps.length) : items (ps.take (i + 1)) = items (ps.take i) ++ if (trimB ps[i]).toList.isEmpty then [] else [trimB ps[i]] := by
  unfold items
  rw [List.take_succ_eq_append_getElem h, List.map_append, List.filter_append]
  cases hx : (trimB ps[i]).toList.isEmpty <;> simp [hx]
theorem items_length (ps : List ByteArray) : (items ps).length ≤ ps.length := by
  unfold items
  exact Nat.le_trans (List.length_filter_le _ _) (by simp)

set_option maxRecDepth 8000 in
set_option maxHeartbeats 2000000 in
theorem separated_any (s sep : ByteArray) (m : Int) (w : World) (hs : s.size ≤ 4194304) (h1 : 1 ≤ sep.size) (hV : Vars m w) (hcnt : Lib.countB s sep ≤ 4194304) (hlen : (Lib.splitB sep 0 (Lib.countB s sep) s).length = Lib.countB s sep + 1) (hsz : ∀ x ∈ Lib.splitB sep 0 (Lib.countB s sep) s, x.size ≤ 4194304) :
    Calls Tryd.prog 19 #[.string s, .string sep] w fun r w' => ∃ v, r = .returned v ∧ Strs w.heap.size v (items (Lib.splitB sep 0 (Lib.countB s sep) s)) w' ∧ Below w.heap.size w w' := by
  have HV : Hid (Vars m w) := hV
  have HX : Hid (∀ x ∈ Lib.splitB sep 0 (Lib.countB s sep) s, x.size ≤ 4194304) := hsz
  clear hsz
  have cS : Hid (Calls Tryd.prog 23 #[.string s, .string sep] w fun e w' =>
      e = .returned (.slice (some ⟨w.heap.size, 0, none⟩) (Lib.countB s sep + 1) (Lib.countB s sep + 1)) ∧ w' = w.alloc (.cells ((Lib.splitB sep 0 (Lib.countB s sep) s).map Value.string).toArray 9)) :=
    Tryd.strings_Split s sep m w (by omega) hV.maxLen h1
  clear hV
  generalize hps : Lib.splitB sep 0 (Lib.countB s sep) s = ps at *
  generalize hc : Lib.countB s sep = c at *
  clear hps hc
  go_enter Tryd.func19, Tryd.ntmps19
  go_wp2_with (go_at_call 23; refine cS.out.mono ?_; rintro e w' ⟨rfl, rfl⟩)
  have hB0 : Below w.heap.size w (w.alloc (.cells (ps.map Value.string).toArray 9)) := (Below.refl _ _).alloc (Nat.le_refl _) _
  have hcell0 : ∀ j (hj : j < ps.length), (w.alloc (.cells (ps.map Value.string).toArray 9)).cell? ⟨w.heap.size, j, none⟩ = some (.string ps[j]) := fun j hj => by
    rw [World.cell?_alloc_at _ _ _ _ rfl]
    simp [hj]
  have hV0 : Vars m (w.alloc (.cells (ps.map Value.string).toArray 9)) := HV.out.below hB0
  have hsz0 : (w.alloc (.cells (ps.map Value.string).toArray 9)).heap.size = w.heap.size + 1 := by simp
  clear HV cS
  generalize hw0 : w.alloc (.cells (ps.map Value.string).toArray 9) = w0 at *
  have HB0 : Hid (Below w.heap.size w w0) := hB0
  have HC0 : Hid (∀ j (hj : j < ps.length), w0.cell? ⟨w.heap.size, j, none⟩ = some (.string ps[j])) := hcell0
  have HV0 : Hid (Vars m w0) := hV0
  have HZ0 : Hid (w0.heap.size = w.heap.size + 1) := hsz0
  clear hB0 hcell0 hV0 hsz0 hw0
  go_loopg [5, 12] (c + 1) (fun g v iv wr => ∃ i : Nat, g = c + 1 - i ∧ iv = .int .i64 i ∧ i ≤ c + 1 ∧ Strs (w.heap.size + 1) v (items (ps.take i)) wr ∧ Below w0.heap.size w0 wr)
  case atStart => exact ⟨0, rfl, rfl, Nat.zero_le _, strs_nil _ _, Below.refl _ _⟩
  case round =>
    obtain ⟨i, hg, rfl, hi, hst, hbw⟩ := hrel
    have HG : Hid (gk = c + 1 - i) := hg
    have HS : Hid (Strs (w.heap.size + 1) u5 (items (ps.take i)) wr) := hst
    have HW : Hid (Below w0.heap.size w0 wr) := hbw
    clear hg hst hbw
    by_cases hlt : i < c + 1
    · have hltI : (i : Int) < (c : Int) + 1 := by omega
      have hil : i < ps.length := by omega
      have hcell : wr.cell? ⟨w.heap.size, i, none⟩ = some (.string ps[i]) := by
        rw [HW.out.cell (p := ⟨w.heap.size, i, none⟩) (by have := HZ0.out; show w.heap.size < w0.heap.size; omega)]
        exact HC0.out i hil
      have hVr := HV0.out.below HW.out
      have cT : Hid (Calls Tryd.prog 24 #[.string ps[i]] wr fun e w' => e = .returned (.string (trimB ps[i])) ∧ Below wr.heap.size wr w') :=
        Tryd.strings_TrimSpace_any ps[i] wr (by have := HX.out ps[i] (List.getElem_mem _); omega) hVr.ascii hVr.utf8 hVr.white
      have hrow := items_snoc ps i hil
      have HR : Hid (items (ps.take (i + 1)) = items (ps.take i) ++ if (trimB ps[i]).toList.isEmpty then [] else [trimB ps[i]]) := hrow
      clear hrow hVr
      generalize hx : ps[i] = x at *
      generalize hy : trimB x = y at *
      go_wp2_with fail
      refine cT.out.mono ?_
      rintro e w1 ⟨rfl, hb1⟩
      have hS1 := HS.out.grown hb1
      have hbw1 : Below w0.heap.size w0 w1 := HW.out.trans (hb1.mono HW.out.size)
      have hz1 : w.heap.size + 1 ≤ w1.heap.size := by have := HZ0.out; have := hbw1.size; omega
      have hn : (items (ps.take i)).length ≤ 4194304 := by have := items_length (ps.take i); simp at this; omega
      obtain ⟨v', w2, hrun, hS2, hb2, _⟩ := strs_push y hS1 hz1 hn
      have HS1 : Hid (Strs (w.heap.size + 1) u5 (items (ps.take i)) w1) := hS1
      have HW1 : Hid (Below w0.heap.size w0 w1) := hbw1
      have HS2 : Hid (Strs (w.heap.size + 1) v' (items (ps.take i) ++ [y]) w2) := hS2
      have HB2 : Hid (Below (w.heap.size + 1) w1 w2) := hb2
      clear hS1 hbw1 hS2 hb2 hb1 hcell cT
      cases he : y.toList.isEmpty with
      | true =>
        clear hrun
        go_wp2_with fail
        go_roundg (c + 1 - (i + 1))
        case measure => have := HG.out; omega
        case rel => exact ⟨i + 1, rfl, by go_num, by omega, by rw [HR.out, he]; simpa using HS1.out, HW1.out⟩
      | false =>
        have HRun : Hid ((Builtin.append_ #[23, 23] 23 #[u5, .slice (some ⟨w1.heap.size, 0, none⟩) 1 1]).run Tryd.prog (w1.alloc (.cells #[.string y] 9)) = .ok v' w2) := hrun
        clear hrun
        go_wp2_with (at_builtin; refine wpList_append_run (by rfl) _ _ _ _ (by rfl) _ _ _ _ (by rfl) (by rfl) HRun.out ?_)
        go_roundg (c + 1 - (i + 1))
        case measure => have := HG.out; omega
        case rel => exact ⟨i + 1, rfl, by go_num, by omega, by rw [HR.out, he]; exact HS2.out, HW1.out.trans (by rw [HZ0.out]; exact HB2.out)⟩
    · have hlt' : ¬ (i : Int) < (c : Int) + 1 := by omega
      obtain rfl : i = c + 1 := by omega
      go_wp2
      go_ret
      refine ⟨_, rfl, ?_, ?_⟩
      · have := HS.out
        rw [List.take_of_length_le (by omega)] at this
        exact this.mono (by omega)
      · exact HB0.out.trans (HW.out.mono (by have := HZ0.out; omega))

set_option maxRecDepth 8000 in
set_option maxHeartbeats 2000000 in
/-- zzB1Same, where both hold the same strings and the first is nil where it holds none. -/
theorem same_any (B1 B2 : Nat) (v1 v2 : Value) (xs : List ByteArray) (w : World) (h1 : Strs B1 v1 xs w) (h2 : Strs B2 v2 xs w) (hn : xs.length ≤ 4194304) :
    Calls Tryd.prog 11 #[v1, v2] w fun r w' => r = .returned (.bool true) ∧ ∃ n, w' = w.drewN n := by
  rcases h1.form with ⟨rfl, hx⟩ | ⟨g1, c1, rfl, _, hx, hc1⟩
  · subst hx
    obtain rfl := h2.2 rfl
    have e1 := fun w => Lib.run_eql_slice_nil (P := Tryd.prog) w 23 9 none 0 0 0 0 Tryd.underlying23
    go_enter Tryd.func11, Tryd.ntmps11
    go_wp2
    go_ret
    exact ⟨rfl, 0, rfl⟩
  · rcases h2.form with ⟨_, hx'⟩ | ⟨g2, c2, rfl, _, _, hc2⟩
    · exact absurd hx' hx
    · have hpos : 0 < xs.length := List.length_pos_iff.2 hx
      have hposB : ((xs.length : Int) == 0) = false := by simp; omega
      have H1 : Hid (∀ j (hj : j < xs.length), w.cell? ⟨g1, j, none⟩ = some (.string xs[j])) := hc1
      have H2 : Hid (∀ j (hj : j < xs.length), w.cell? ⟨g2, j, none⟩ = some (.string xs[j])) := hc2
      clear h1 h2 hc1 hc2 hx
      go_enter Tryd.func11, Tryd.ntmps11
      go_wp2_with fail
      go_loopg [5] xs.length (fun g iv wr => ∃ i : Nat, g = xs.length - i ∧ iv = .int .i64 i ∧ i ≤ xs.length ∧ ∃ n, wr = w.drewN n)
      case atStart => exact ⟨0, rfl, rfl, Nat.zero_le _, 0, rfl⟩
      case round =>
        obtain ⟨i, hg, rfl, hi, n, rfl⟩ := hrel
        have HG : Hid (gk = xs.length - i) := hg
        clear hg
        by_cases hlt : i < xs.length
        · have hltI : (i : Int) < (xs.length : Int) := by omega
          have a1 := H1.out i hlt
          have a2 := H2.out i hlt
          go_wp2_with fail
          go_region_held3 (fun w' => w'.cell? ⟨g1, i, none⟩ = some (.string xs[i]) ∧ w'.cell? ⟨g2, i, none⟩ = some (.string xs[i])) (go_keep) (fail)
          go_wp2_with fail
          go_roundg (xs.length - (i + 1))
          case measure => have := HG.out; omega
          case rel => exact ⟨i + 1, rfl, by go_num, by omega, n + 1, rfl⟩
        · go_wp2
          go_ret
          exact ⟨rfl, n, rfl⟩
end Go.Proofs.Qxb6609045aDoor
