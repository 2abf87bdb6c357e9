import Derived.Test.Qxb6606142aDoorCards
import Derived.Test.Qxb6606142aDoorTie
import Derived.Test.Qxb6606142aDoorLaw
import Derived.Test.Qxb6606142aDoorFacts
import Derived.ProofKit
import Derived.OpenShut
import Derived.LaidMore
import Derived.Lay
import Derived.SevenTiedAt
import Derived.Stop.Joined
import Derived.PinnedBridge
import Derived.Lib.LaidU8
import Derived.Carry
import Derived.ChangeMaps5
import Derived.SliceStrings
namespace Go.Proofs.Qxb6606142aDoor
open Go.ChangeShapes Go.WideShapes Go.ChangeAt Go.RowKit
section
variable {H : Type} {enc : TypeId × Value → H}
/-- From a contract to a row's claim, where the contract asks for the shape of the world in which the call begins, and for a condition of the heap. -/
theorem handed_of_shaped_and {a : Assume} {C : Checked} {os : Os} {f : FuncId} {fn : Func} {s : ChangeSpec} {conds : List PathCond} {apart fresh handsOn again : Bool} {X : World → Array Value → Prop}
    (hX : ∀ (w w' : World) (args : Array Value), w.heap = w'.heap → X w args → X w' args)
    (own : ownKnob C.prog.godebug = none) (started : os.Started) (noInit : C.prog.inits.idxOf? f = none) (hfn : C.prog.funcs[f]? = some fn)
    (witness : ∃ (w : World) (tape : Tape) (i : Input), w.os = os ∧ (w.forCall tape i).Shaped C.prog ∧ i.vars = [] ∧ Input.okWide C.prog (w.forCall tape i) .any w.heap.size f i ∧
      ((s.pre enc C.prog fn conds apart (w.forCall tape i).memory i.args ∧ X (w.forCall tape i).memory i.args) ∧ sizedMet enc C.prog fn (OpenSpec.ofChange s) apart (w.forCall tape i).memory i.args) ∧ a.holds C.prog (lone (Frame.enter C.prog f i.args .normal) [] (w.forCall tape i)))
    (contract : ∀ (W : World) (base : Nat) (args : Array Value) (ds gs : List (DataW H)) (before : List MemPlace), W.ShapedOpen C.prog →
      (∀ (j : Nat) t v, fn.params[j]? = some t → args[j]? = some v → Value.okWide C.prog W .any base t v) →
      DataW.Whole enc C.prog fn.params.toList s.vars apart W args.toList ds gs before → X W args →
      Calls C.prog f args W fun e W' => ∃ v, e = .returned v ∧ s.post enc C.prog fn apart fresh handsOn again W args v W') :
    ReturnsInHanded a C os f .any (fun w args => (s.pre enc C.prog fn conds apart w args ∧ X w args) ∧ sizedMet enc C.prog fn (OpenSpec.ofChange s) apart w args) (s.post enc C.prog fn apart fresh handsOn again) := by
  refine returnsInHanded_of_calls own started noInit witness ?_
  intro w tape i _ hsh _ hok hpre _
  obtain ⟨_, _, _, fn', hfn', _, _, _, _, hval⟩ := hok
  obtain rfl : fn' = fn := Option.some.inj (hfn'.symm.trans hfn)
  obtain ⟨⟨⟨ds, gs, before, hw, _⟩, hx⟩, _⟩ := hpre
  refine (contract (w.forCall tape i) w.heap.size i.args ds gs before hsh hval (DataW.Whole.of_heap (w' := w.forCall tape i) (by rfl) hw) (hX _ _ _ (by rfl) hx)).mono fun e W' ⟨v, he, hp⟩ => ?_
  subst he
  exact ChangeSpec.post_blind hp
end

section
variable {H : Type} {enc : TypeId × Value → H} {P : Program} {w : World} {base : Nat} {spare : Nat → Bool} {held : Bool}
theorem trodAll_five {t0 t1 t2 t3 t4 : TypeId} {args : Array Value} {ds : List (DataW H)} {ps : List MemPlace} (h : DataW.TrodAll enc P w base spare held [t0, t1, t2, t3, t4] args.toList ds ps) :
    ∃ v0 v1 v2 v3 v4 d0 d1 d2 d3 d4 p0 p1 p2 p3 p4, args = #[v0, v1, v2, v3, v4] ∧ ds = [d0, d1, d2, d3, d4] ∧ ps = p0 ++ p1 ++ p2 ++ p3 ++ p4 ∧ DataW.Trod enc P w base spare held t0 v0 d0 p0 ∧ DataW.Trod enc P w base spare held t1 v1 d1 p1 ∧ DataW.Trod enc P w base spare held t2 v2 d2 p2 ∧ DataW.Trod enc P w base spare held t3 v3 d3 p3 ∧ DataW.Trod enc P w base spare held t4 v4 d4 p4 := by
  obtain ⟨v0, vs0, d0, ds0, p0, q0, hargs, rfl, rfl, hd0, hr0⟩ := trodAll_cons h
  obtain ⟨v1, vs1, d1, ds1, p1, q1, rfl, rfl, rfl, hd1, hr1⟩ := trodAll_cons hr0
  obtain ⟨v2, vs2, d2, ds2, p2, q2, rfl, rfl, rfl, hd2, hr2⟩ := trodAll_cons hr1
  obtain ⟨v3, vs3, d3, ds3, p3, q3, rfl, rfl, rfl, hd3, hr3⟩ := trodAll_cons hr2
  obtain ⟨v4, vs4, d4, ds4, p4, q4, rfl, rfl, rfl, hd4, hr4⟩ := trodAll_cons hr3
  obtain ⟨rfl, rfl, rfl⟩ := trodAll_nil hr4
  exact ⟨v0, v1, v2, v3, v4, d0, d1, d2, d3, d4, p0, p1, p2, p3, p4, by cases args; simp_all, rfl, by simp, hd0, hd1, hd2, hd3, hd4⟩
theorem trodAll_mk5 {t0 t1 t2 t3 t4 : TypeId} {v0 v1 v2 v3 v4 : Value} {d0 d1 d2 d3 d4 : DataW H} {p0 p1 p2 p3 p4 : List MemPlace} (h0 : DataW.Trod enc P w base spare held t0 v0 d0 p0) (h1 : DataW.Trod enc P w base spare held t1 v1 d1 p1)
    (h2 : DataW.Trod enc P w base spare held t2 v2 d2 p2) (h3 : DataW.Trod enc P w base spare held t3 v3 d3 p3) (h4 : DataW.Trod enc P w base spare held t4 v4 d4 p4) : DataW.TrodAll enc P w base spare held [t0, t1, t2, t3, t4] [v0, v1, v2, v3, v4] [d0, d1, d2, d3, d4] (p0 ++ (p1 ++ (p2 ++ (p3 ++ p4)))) :=
  ⟨p0, p1 ++ (p2 ++ (p3 ++ p4)), h0, trodAll_mk4 h1 h2 h3 h4, rfl⟩
/-- A slice of strings that came in. -/
theorem arg_open {W : World} {b0 : Nat} {v : Value} {d : DataW H} {p : List MemPlace} (hv : Value.okWide Tryd.prog W .any b0 22 v) (h : DataW.Trod enc Tryd.prog W 0 (fun _ => true) true 22 v d p) :
    ∃ xs, Arg v xs W ∧ xs.length ≤ maxLen ∧ ∀ x ∈ xs, x.size ≤ maxLen := by
  obtain ⟨a0, len, cap, rfl⟩ := okWide_slice Tryd.underlying22 hv
  obtain ⟨fuel, hf⟩ := h
  rcases open_strings Tryd.underlying22 Tryd.underlying9 (by kernel_rfl) hf with ⟨hcs, _⟩ | ⟨a, len', cap', ss, hcs, _, hl, hm, hz, _, hcell, hws⟩
  · simp [Value.cells] at hcs
    obtain ⟨rfl, rfl, rfl⟩ := hcs
    exact ⟨[], Or.inl ⟨rfl, none, 0, rfl, fun _ => rfl⟩, by simp, fun x hx => by cases hx⟩
  · simp [Value.cells] at hcs
    obtain ⟨rfl, rfl, rfl⟩ := hcs
    simp only [if_true] at hz
    have hlen : (ss.take len).length = len := by rw [List.length_take]; omega
    refine ⟨ss.take len, ?_, by rw [hlen]; omega, fun x hx => hws x (List.mem_of_mem_take hx)⟩
    by_cases hl0 : len = 0
    · subst hl0
      exact Or.inl ⟨by simp, some a, cap, rfl, fun h => by cases h⟩
    · obtain ⟨b, off, spot⟩ := a
      have hspot : spot = none := by simpa [Addr.add] using World.cell?_spot (hcell 0 (by omega))
      subst hspot
      refine Or.inr ⟨fun h => hl0 (by rw [h] at hlen; simpa using hlen.symm), b, off, cap, by rw [hlen], fun i hi => ?_⟩
      rw [hlen] at hi
      have := hcell i (by omega)
      rw [Addr.add_lit] at this
      rw [this]
      simp [List.getElem?_eq_getElem (show i < ss.length by omega)]
end
theorem own : ownKnob Tryd.prog.godebug = none := by kernel_rfl
theorem laidOut : laidOutB Tryd.prog = true := by kernel_rfl
theorem u8Extra : U8Extra Tryd.prog Tryd.lays260_ren := ⟨by kernel_rfl, by kernel_rfl, by kernel_rfl, by kernel_rfl, by kernel_rfl, by kernel_rfl, by kernel_rfl⟩
theorem whiteExtra : WhiteExtra Tryd.prog Tryd.lays199_ren := ⟨by kernel_rfl, by kernel_rfl, by kernel_rfl, by kernel_rfl, by kernel_rfl, by kernel_rfl, by kernel_rfl, by kernel_rfl⟩
theorem accept_eq : Rows.laid_unicode_utf8_acceptRanges = Lib.acceptData := by kernel_rfl
theorem white_eq : Rows.laid_unicode_White_Space = Lib.whiteData := by kernel_rfl
theorem ascii_eq : (Rows.laid_strings_asciiSpace : DataW Unit) = Lib.tabData .u8 Lib.asciiSpaceTab := by kernel_rfl
theorem first_eq : Rows.laid_unicode_utf8_first = Lib.firstData := Pinned.utf8First_eq
theorem ascii_type : (Tryd.prog.globals[0]?).map (·.type) = some 45 := by kernel_rfl
/-- What the row lists pays the library's contracts. -/
theorem vars_of {w : World} (hL : laidMet Tryd.prog Rows.fnJAASOptionFindsFirstQuotedOptionRow.laid w) : Vars w := by
  refine ⟨?_, ?_, ?_⟩
  · obtain ⟨g, t, cs, fuel, p, hg, hty, hvar, hd⟩ : Lib.VarReads Tryd.prog w "strings.asciiSpace" Rows.laid_strings_asciiSpace := Lib.laidMet.reads hL (.tail _ (.tail _ (.head _)))
    obtain rfl := Option.some.inj (gAscii.symm.trans hg)
    obtain rfl := Option.some.inj (ascii_type.symm.trans hty)
    rw [ascii_eq] at hd
    have hcs := Lib.cells_of_tab Tryd.underlying45 Tryd.underlying5 (by kernel_rfl) (by kernel_rfl) hd
    show w.var? Tryd.prog "strings.asciiSpace" = _
    rw [hvar, ← hcs]
  · exact utf8Tabs_of_reads Tryd.lays260 u8Extra (by rw [← first_eq]; exact Lib.laidMet.reads hL (.tail _ (.tail _ (.tail _ (.head _))))) (by rw [← accept_eq]; exact Lib.laidMet.reads hL (.head _))
  · exact whiteTab_of_reads Tryd.lays199 whiteExtra (by rw [← white_eq]; exact Lib.laidMet.reads hL (.tail _ (.head _)))

set_option maxRecDepth 100000 in
theorem jaas_lifted (os : Os) (started : os.Started) (H : Type) (enc : TypeId × Value → H) :
    ReturnsInHanded {} Tryd.checked os 4 .any (fun w args => (Rows.fnJAASOptionFindsFirstQuotedOptionSpec.pre enc Tryd.prog Tryd.f4 Rows.fnJAASOptionFindsFirstQuotedOptionRow.domain false w args ∧ laidMetH Tryd.prog Rows.fnJAASOptionFindsFirstQuotedOptionRow.laid w) ∧ sizedMet enc Tryd.prog Tryd.f4 (OpenSpec.ofChange Rows.fnJAASOptionFindsFirstQuotedOptionSpec) false w args)
      (Rows.fnJAASOptionFindsFirstQuotedOptionSpec.post enc Tryd.prog Tryd.f4 false true false false) := by
  refine handed_of_shaped_and (C := Tryd.checked) (X := fun w _ => laidMetH Tryd.prog Rows.fnJAASOptionFindsFirstQuotedOptionRow.laid w) (fun _ _ _ hh h => h.of_heap hh) own started (by kernel_rfl) Tryd.func4
    (ChangeSpec.witness_shaped (enc := enc) (C := Tryd.checked) (os := os) (X := fun w _ => laidMetH Tryd.prog Rows.fnJAASOptionFindsFirstQuotedOptionRow.laid w) false (World.laidAll Tryd.prog os Rows.fnJAASOptionFindsFirstQuotedOptionRow.laid) #[.string ⟨#[]⟩, .string ⟨#[]⟩, .slice none 0 0, .slice none 0 0, .string ⟨#[]⟩] 8 (World.laidAll_os _ _ _)
      (World.shaped_of_ZipB (by kernel_rfl) (by kernel_rfl)) (by kernel_rfl) (by kernel_rfl) (by kernel_rfl)
      (by rw [MakeChecks.laidMetH_plain _ _ _ (by kernel_rfl)]; exact laidMet_laidAll _ (by kernel_rfl) (by kernel_rfl))) ?_
  intro W base args ds gs before hsh hval0 hW hL
  have hval : ∀ (j : Nat) t v, Tryd.f4.params[j]? = some t → args[j]? = some v → Value.okWide Tryd.prog W .any base t v := hval0
  have hW' := hW
  obtain ⟨p, q, hA0, hV, rfl, _, _⟩ := hW
  have hA : DataW.TrodAll enc Tryd.prog W 0 (fun _ => true) true Tryd.f4.params.toList args.toList ds p := hA0
  rw [Tryd.params4] at hA hval
  obtain ⟨v0, v1, v2, v3, v4, d0, d1, d2, d3, d4, p0, p1, p2, p3, p4, rfl, rfl, rfl, h0, h1, h2, h3, h4⟩ := trodAll_five hA
  obtain ⟨rfl, rfl⟩ := trodVars_none hV
  have hlt : ∀ x ∈ p0 ++ p1 ++ p2 ++ p3 ++ p4, x.block < W.heap.size := fun x hx => by
    have := hW'.lt x (by simpa using hx)
    simpa using this
  have g0 : ∀ W', Below W.heap.size W W' → DataW.Trod enc Tryd.prog W' 0 (fun b => decide (b < W.heap.size)) true 9 v0 d0 p0 := fun W' hb => Below.trod laidOut (by kernel_rfl) (of_decide_eq_true (by kernel_rfl)) h0 hb (fun x hx => hlt x (by simp [hx]))
  have g1 : ∀ W', Below W.heap.size W W' → DataW.Trod enc Tryd.prog W' 0 (fun b => decide (b < W.heap.size)) true 9 v1 d1 p1 := fun W' hb => Below.trod laidOut (by kernel_rfl) (of_decide_eq_true (by kernel_rfl)) h1 hb (fun x hx => hlt x (by simp [hx]))
  have g2 : ∀ W', Below W.heap.size W W' → DataW.Trod enc Tryd.prog W' 0 (fun b => decide (b < W.heap.size)) true 22 v2 d2 p2 := fun W' hb => Below.trod laidOut (by kernel_rfl) (of_decide_eq_true (by kernel_rfl)) h2 hb (fun x hx => hlt x (by simp [hx]))
  have g3 : ∀ W', Below W.heap.size W W' → DataW.Trod enc Tryd.prog W' 0 (fun b => decide (b < W.heap.size)) true 22 v3 d3 p3 := fun W' hb => Below.trod laidOut (by kernel_rfl) (of_decide_eq_true (by kernel_rfl)) h3 hb (fun x hx => hlt x (by simp [hx]))
  have g4 : ∀ W', Below W.heap.size W W' → DataW.Trod enc Tryd.prog W' 0 (fun b => decide (b < W.heap.size)) true 9 v4 d4 p4 := fun W' hb => Below.trod laidOut (by kernel_rfl) (of_decide_eq_true (by kernel_rfl)) h4 hb (fun x hx => hlt x (by simp [hx]))
  obtain ⟨xs, a2, x2, y2⟩ := arg_open (hval 2 22 v2 rfl rfl) h2
  obtain ⟨ys, a3, x3, y3⟩ := arg_open (hval 3 22 v3 rfl rfl) h3
  obtain ⟨s0, rfl, rfl, rfl, z0⟩ := ChangeMaps.open_string Tryd.underlying9 (hval 0 9 v0 rfl rfl) h0
  obtain ⟨s1, rfl, rfl, rfl, z1⟩ := ChangeMaps.open_string Tryd.underlying9 (hval 1 9 v1 rfl rfl) h1
  obtain ⟨s4, rfl, rfl, rfl, z4⟩ := ChangeMaps.open_string Tryd.underlying9 (hval 4 9 v4 rfl rfl) h4
  rw [MakeChecks.laidMetH_plain _ _ _ (by kernel_rfl)] at hL
  refine (law_option s0 s1 s4 v2 v3 xs ys W a2 a3 (vars_of hL) (by unfold maxLen at z0; omega) (by unfold maxLen at z1; omega) (by unfold maxLen at z4; omega) (by unfold maxLen at x2; omega) (by unfold maxLen at x3; omega) (fun x hx => by have := y2 x hx; unfold maxLen at this; omega) (fun x hx => by have := y3 x hx; unfold maxLen at this; omega)).mono fun e W' ⟨he, hb⟩ => ?_
  subst he
  exact ⟨_, rfl, _, _, _, [], _, [], hW', trodAll_mk1 (shut_bool Tryd.underlying4 _), trodAll_mk5 (g0 W' hb) (g1 W' hb) (g2 W' hb) (g3 W' hb) (g4 W' hb), rfl, hb.frame _, fun h => by cases h⟩

theorem jaas_row : Rows.FnJAASOptionFindsFirstQuotedOptionSaid :=
  OpenClaim.holds_of_wide 4 Tryd.f4 rfl rfl rfl rfl rfl rfl rfl ⟨rfl, rfl, rfl, rfl, rfl⟩ rfl rfl rfl rfl rfl (by kernel_rfl) Tryd.func4 facts
    (of_decide_eq_true (by kernel_rfl)) (by unfold Func.isWrapper; first | (rw [if_pos (by decide +kernel)]; kernel_rfl) | (rw [if_neg (by decide +kernel)]; exact ⟨rfl, rfl⟩))
    (fun os started H enc _ => jaas_lifted os started H enc)
theorem jaas_holds : Rows.FnJAASOptionFindsFirstQuotedOptionCardSaid :=
  Claim7.holds_tied_plain_at .later [] [.data, .listed, .data, .pinned] true (true, "c738e21b2471173631e6cbb6c7851f78ac54065229d373619ea065a4c932e20e") false jaas_row (fun _ h => by cases h) (by kernel_rfl) (fun _ h => by cases h) fnJAASOptionFindsFirstQuotedOption_row_tie rfl ⟨rfl, rfl⟩ harness_eq rfl
    (fun f fn hf hfn => by
      obtain rfl : f = 4 := Option.some.inj ((show Tryd.prog.funcNamed Rows.fnJAASOptionFindsFirstQuotedOptionRow.func = some 4 by kernel_rfl).symm.trans hf) |>.symm
      obtain rfl : fn = Tryd.f4 := (Option.some.inj (Tryd.func4.symm.trans hfn)).symm
      exact ⟨by kernel_rfl, fun j t ht => by
        rw [Tryd.params4] at ht
        have hm : t ∈ [9, 9, 22, 22, 9] := by simpa using Array.mem_of_getElem? ht
        have hall : ([9, 9, 22, 22, 9].all fun u => !Tryd.prog.wantsStandIn u) = true := by kernel_rfl
        exact (show Tryd.prog.wantsStandIn t = false by simpa using List.all_eq_true.1 hall t hm)⟩)
    (by kernel_rfl)
end Go.Proofs.Qxb6606142aDoor
