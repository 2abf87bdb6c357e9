import Derived.Test.Qxb6606157aDoorCards
import Derived.Test.Qxb6606157aDoorTie
import Derived.Test.Qxb6606157aDoorLaw
import Derived.Test.Qxb6606157aDoorFacts
import Derived.ProofKit
import Derived.OpenShut
import Derived.LaidMore
import Derived.Lay
import Derived.SevenTiedAt
import Derived.Stop.Joined
import Derived.Carry
import Derived.ChangeMaps5
namespace Go.Proofs.Qxb6606157aDoor
open Go.ChangeShapes Go.WideShapes Go.ChangeAt Go.RowKit
section
variable {H : Type} {enc : TypeId × Value → H}
/-- From a contract to a row's claim, where the contract asks for the shape of the world in which the call begins, and for a condition of the heap. -/
theorem handed_of_shaped_and {a : Assume} {C : Checked} {os : Os} {f : FuncId} {fn : Func} {s : ChangeSpec} {conds : List PathCond} {apart fresh handsOn again : Bool} {X : World → Array Value → Prop}
    (hX : ∀ (w w' : World) (args : Array Value), w.heap = w'.heap → X w args → X w' args)
    (own : ownKnob C.prog.godebug = none) (started : os.Started) (noInit : C.prog.inits.idxOf? f = none) (hfn : C.prog.funcs[f]? = some fn)
    (witness : ∃ (w : World) (tape : Tape) (i : Input), w.os = os ∧ (w.forCall tape i).Shaped C.prog ∧ i.vars = [] ∧ Input.okWide C.prog (w.forCall tape i) .any w.heap.size f i ∧
      ((s.pre enc C.prog fn conds apart (w.forCall tape i).memory i.args ∧ X (w.forCall tape i).memory i.args) ∧ sizedMet enc C.prog fn (OpenSpec.ofChange s) apart (w.forCall tape i).memory i.args) ∧ a.holds C.prog (lone (Frame.enter C.prog f i.args .normal) [] (w.forCall tape i)))
    (contract : ∀ (W : World) (base : Nat) (args : Array Value) (ds gs : List (DataW H)) (before : List MemPlace), W.ShapedOpen C.prog →
      (∀ (j : Nat) t v, fn.params[j]? = some t → args[j]? = some v → Value.okWide C.prog W .any base t v) →
      DataW.Whole enc C.prog fn.params.toList s.vars apart W args.toList ds gs before → X W args →
      Calls C.prog f args W fun e W' => ∃ v, e = .returned v ∧ s.post enc C.prog fn apart fresh handsOn again W args v W') :
    ReturnsInHanded a C os f .any (fun w args => (s.pre enc C.prog fn conds apart w args ∧ X w args) ∧ sizedMet enc C.prog fn (OpenSpec.ofChange s) apart w args) (s.post enc C.prog fn apart fresh handsOn again) := by
  refine returnsInHanded_of_calls own started noInit witness ?_
  intro w tape i _ hsh _ hok hpre _
  obtain ⟨_, _, _, fn', hfn', _, _, _, _, hval⟩ := hok
  obtain rfl : fn' = fn := Option.some.inj (hfn'.symm.trans hfn)
  obtain ⟨⟨⟨ds, gs, before, hw, _⟩, hx⟩, _⟩ := hpre
  refine (contract (w.forCall tape i) w.heap.size i.args ds gs before hsh hval (DataW.Whole.of_heap (w' := w.forCall tape i) (by rfl) hw) (hX _ _ _ (by rfl) hx)).mono fun e W' ⟨v, he, hp⟩ => ?_
  subst he
  exact ChangeSpec.post_blind hp
end

theorem own : ownKnob Tryd.prog.godebug = none := by kernel_rfl
theorem maxLen_cell {w : World} (h : w.ShapedOpen Tryd.prog) : ∃ m, w.cell? ⟨2, 0, none⟩ = some (.int .i64 m) := Tryd.laysM143.s1_3 w h
set_option maxRecDepth 100000 in
theorem back_lifted (os : Os) (started : os.Started) (H : Type) (enc : TypeId × Value → H) :
    ReturnsInHanded {} Tryd.checked os 6 .any (fun w args => (Rows.fnIdentifierReadsBackQuotedSpec.pre enc Tryd.prog Tryd.f6 Rows.fnIdentifierReadsBackQuotedRow.domain false w args ∧ laidMetH Tryd.prog Rows.fnIdentifierReadsBackQuotedRow.laid w) ∧ sizedMet enc Tryd.prog Tryd.f6 (OpenSpec.ofChange Rows.fnIdentifierReadsBackQuotedSpec) false w args)
      (Rows.fnIdentifierReadsBackQuotedSpec.post enc Tryd.prog Tryd.f6 false true false false) := by
  refine handed_of_shaped_and (C := Tryd.checked) (X := fun w _ => laidMetH Tryd.prog Rows.fnIdentifierReadsBackQuotedRow.laid w) (fun _ _ _ hh h => h.of_heap hh) own started (by kernel_rfl) Tryd.func6
    (ChangeSpec.witness_shaped (enc := enc) (C := Tryd.checked) (os := os) (X := fun w _ => laidMetH Tryd.prog Rows.fnIdentifierReadsBackQuotedRow.laid w) false (World.laidAll Tryd.prog os Rows.fnIdentifierReadsBackQuotedRow.laid) #[.string ⟨#[]⟩, .string ⟨#[]⟩, .string ⟨#[]⟩] 8 (World.laidAll_os _ _ _)
      (World.shaped_of_ZipB (by kernel_rfl) (by kernel_rfl)) (by kernel_rfl) (by kernel_rfl) (by kernel_rfl)
      (by rw [MakeChecks.laidMetH_plain _ _ _ (by kernel_rfl)]; exact laidMet_laidAll _ (by kernel_rfl) (by kernel_rfl))) ?_
  intro W base args ds gs before hsh hval0 hW _
  have hval : ∀ (j : Nat) t v, Tryd.f6.params[j]? = some t → args[j]? = some v → Value.okWide Tryd.prog W .any base t v := hval0
  have hW' := hW
  obtain ⟨p, q, hA0, hV, rfl, _, _⟩ := hW
  have hA : DataW.TrodAll enc Tryd.prog W 0 (fun _ => true) true Tryd.f6.params.toList args.toList ds p := hA0
  rw [Tryd.params6] at hA hval
  obtain ⟨v0, v1, v2, d0, d1, d2, p0, p1, p2, rfl, rfl, rfl, h0, h1, h2⟩ := trodAll_three hA
  obtain ⟨rfl, rfl⟩ := trodVars_none hV
  obtain ⟨s0, rfl, rfl, rfl, z0⟩ := ChangeMaps.open_string Tryd.underlying9 (hval 0 9 v0 rfl rfl) h0
  obtain ⟨s1, rfl, rfl, rfl, z1⟩ := ChangeMaps.open_string Tryd.underlying9 (hval 1 9 v1 rfl rfl) h1
  obtain ⟨s2, rfl, rfl, rfl, z2⟩ := ChangeMaps.open_string Tryd.underlying9 (hval 2 9 v2 rfl rfl) h2
  simp only [List.append_nil] at hW'
  obtain ⟨m, hm⟩ := maxLen_cell hsh
  refine (law_back s0 s1 s2 m W (by unfold maxLen at z0; omega) (by unfold maxLen at z1; omega) (by unfold maxLen at z2; omega) hm).mono fun e W' ⟨he, hb⟩ => ?_
  subst he
  exact ⟨_, rfl, _, _, _, [], [], [], hW', trodAll_mk1 (shut_bool Tryd.underlying4 _), trodAll_mk3 (ChangeMaps.shut_string Tryd.underlying9 z0) (ChangeMaps.shut_string Tryd.underlying9 z1) (ChangeMaps.shut_string Tryd.underlying9 z2), rfl, hb.frame _, fun h => by cases h⟩

theorem back_row : Rows.FnIdentifierReadsBackQuotedSaid :=
  OpenClaim.holds_of_wide 6 Tryd.f6 rfl rfl rfl rfl rfl rfl rfl ⟨rfl, rfl, rfl, rfl, rfl⟩ rfl rfl rfl rfl rfl (by kernel_rfl) Tryd.func6 facts
    (of_decide_eq_true (by kernel_rfl)) (by unfold Func.isWrapper; first | (rw [if_pos (by decide +kernel)]; kernel_rfl) | (rw [if_neg (by decide +kernel)]; exact ⟨rfl, rfl⟩))
    (fun os started H enc _ => back_lifted os started H enc)
theorem back_holds : Rows.FnIdentifierReadsBackQuotedCardSaid :=
  Claim7.holds_tied_plain_at .later [] [.data, .pinned] true (true, "208a2b5f718da11d09678065f6aeba061cd36cdbaf7d8298ae216f28b0799578") true back_row (fun _ h => by cases h) (by kernel_rfl) (fun _ h => by cases h) fnIdentifierReadsBackQuoted_row_tie rfl ⟨rfl, rfl⟩ harness_eq rfl
    (fun f fn hf hfn => by
      obtain rfl : f = 6 := Option.some.inj ((show Tryd.prog.funcNamed Rows.fnIdentifierReadsBackQuotedRow.func = some 6 by kernel_rfl).symm.trans hf) |>.symm
      obtain rfl : fn = Tryd.f6 := (Option.some.inj (Tryd.func6.symm.trans hfn)).symm
      exact ⟨by kernel_rfl, fun j t ht => by
        rw [Tryd.params6] at ht
        have hm : t ∈ [9, 9, 9] := by simpa using Array.mem_of_getElem? ht
        have hall : ([9, 9, 9].all fun u => !Tryd.prog.wantsStandIn u) = true := by kernel_rfl
        exact (show Tryd.prog.wantsStandIn t = false by simpa using List.all_eq_true.1 hall t hm)⟩)
    (by kernel_rfl)
end Go.Proofs.Qxb6606157aDoor
