import Derived.Test.Qxb6609045aDoorCards
import Derived.Test.Qxb6609045aDoorTie
import Derived.Test.Qxb6609045aDoorLaw
import Derived.Test.Qxb6609045aDoorFacts
import Derived.ProofKit
import Derived.OpenShut
import Derived.LaidMore
import Derived.Lay
import Derived.SevenTiedAt
import Derived.Stop.Joined
import Derived.PinnedBridge
import Derived.Lib.LaidU8
import Derived.Carry
import Derived.ChangeMaps5
namespace Go.Proofs.Qxb6609045aDoor
open Go.ChangeShapes Go.WideShapes Go.ChangeAt Go.RowKit
section
variable {H : Type} {enc : TypeId × Value → H}
/-- From a contract to a row's claim, where the contract asks for the shape of the world in which the call begins, and for a condition of the heap. -/
theorem handed_of_shaped_and {a : Assume} {C : Checked} {os : Os} {f : FuncId} {fn : Func} {s : ChangeSpec} {conds : List PathCond} {apart fresh handsOn again : Bool} {X : World → Array Value → Prop}
    (hX : ∀ (w w' : World) (args : Array Value), w.heap = w'.heap → X w args → X w' args)
    (own : ownKnob C.prog.godebug = none) (started : os.Started) (noInit : C.prog.inits.idxOf? f = none) (hfn : C.prog.funcs[f]? = some fn)
    (witness : ∃ (w : World) (tape : Tape) (i : Input), w.os = os ∧ (w.forCall tape i).Shaped C.prog ∧ i.vars = [] ∧ Input.okWide C.prog (w.forCall tape i) .any w.heap.size f i ∧
      ((s.pre enc C.prog fn conds apart (w.forCall tape i).memory i.args ∧ X (w.forCall tape i).memory i.args) ∧ sizedMet enc C.prog fn (OpenSpec.ofChange s) apart (w.forCall tape i).memory i.args) ∧ a.holds C.prog (lone (Frame.enter C.prog f i.args .normal) [] (w.forCall tape i)))
    (contract : ∀ (W : World) (base : Nat) (args : Array Value) (ds gs : List (DataW H)) (before : List MemPlace), W.ShapedOpen C.prog →
      (∀ (j : Nat) t v, fn.params[j]? = some t → args[j]? = some v → Value.okWide C.prog W .any base t v) →
      DataW.Whole enc C.prog fn.params.toList s.vars apart W args.toList ds gs before → X W args →
      Calls C.prog f args W fun e W' => ∃ v, e = .returned v ∧ s.post enc C.prog fn apart fresh handsOn again W args v W') :
    ReturnsInHanded a C os f .any (fun w args => (s.pre enc C.prog fn conds apart w args ∧ X w args) ∧ sizedMet enc C.prog fn (OpenSpec.ofChange s) apart w args) (s.post enc C.prog fn apart fresh handsOn again) := by
  refine returnsInHanded_of_calls own started noInit witness ?_
  intro w tape i _ hsh _ hok hpre _
  obtain ⟨_, _, _, fn', hfn', _, _, _, _, hval⟩ := hok
  obtain rfl : fn' = fn := Option.some.inj (hfn'.symm.trans hfn)
  obtain ⟨⟨⟨ds, gs, before, hw, _⟩, hx⟩, _⟩ := hpre
  refine (contract (w.forCall tape i) w.heap.size i.args ds gs before hsh hval (DataW.Whole.of_heap (w' := w.forCall tape i) (by rfl) hw) (hX _ _ _ (by rfl) hx)).mono fun e W' ⟨v, he, hp⟩ => ?_
  subst he
  exact ChangeSpec.post_blind hp
end

theorem own : ownKnob Tryd.prog.godebug = none := by kernel_rfl
theorem maxLen_cell {w : World} (h : w.ShapedOpen Tryd.prog) : ∃ m, w.cell? ⟨2, 0, none⟩ = some (.int .i64 m) := Tryd.laysM143.s1_3 w h
theorem u8Extra : U8Extra Tryd.prog Tryd.lays260_ren := ⟨by kernel_rfl, by kernel_rfl, by kernel_rfl, by kernel_rfl, by kernel_rfl, by kernel_rfl, by kernel_rfl⟩
theorem whiteExtra : WhiteExtra Tryd.prog Tryd.lays199_ren := ⟨by kernel_rfl, by kernel_rfl, by kernel_rfl, by kernel_rfl, by kernel_rfl, by kernel_rfl, by kernel_rfl, by kernel_rfl⟩
theorem accept_eq : Rows.laid_unicode_utf8_acceptRanges = Lib.acceptData := by kernel_rfl
theorem white_eq : Rows.laid_unicode_White_Space = Lib.whiteData := by kernel_rfl
theorem ascii_eq : (Rows.laid_strings_asciiSpace : DataW Unit) = Lib.tabData .u8 Lib.asciiSpaceTab := by kernel_rfl
theorem first_eq : Rows.laid_unicode_utf8_first = Lib.firstData := Pinned.utf8First_eq
theorem ascii_type : (Tryd.prog.globals[0]?).map (·.type) = some 36 := by kernel_rfl
/-- What the row lists pays the library's contracts. -/
theorem vars_of {w : World} {m : Int} (hm : w.cell? ⟨2, 0, none⟩ = some (.int .i64 m)) (hL : laidMet Tryd.prog Rows.fnSeparatedLeadingSepAddsNothingRow.laid w) : Vars m w := by
  refine ⟨hm, ?_, ?_, ?_⟩
  · obtain ⟨g, t, cs, fuel, p, hg, hty, hvar, hd⟩ : Lib.VarReads Tryd.prog w "strings.asciiSpace" Rows.laid_strings_asciiSpace := Lib.laidMet.reads hL (.tail _ (.tail _ (.head _)))
    obtain rfl := Option.some.inj (gAscii.symm.trans hg)
    obtain rfl := Option.some.inj (ascii_type.symm.trans hty)
    rw [ascii_eq] at hd
    have hcs := Lib.cells_of_tab Tryd.underlying36 Tryd.underlying5 (by kernel_rfl) (by kernel_rfl) hd
    show w.var? Tryd.prog "strings.asciiSpace" = _
    rw [hvar, ← hcs]
  · exact utf8Tabs_of_reads Tryd.lays260 u8Extra (by rw [← first_eq]; exact Lib.laidMet.reads hL (.tail _ (.tail _ (.tail _ (.head _))))) (by rw [← accept_eq]; exact Lib.laidMet.reads hL (.head _))
  · exact whiteTab_of_reads Tryd.lays199 whiteExtra (by rw [← white_eq]; exact Lib.laidMet.reads hL (.tail _ (.head _)))

set_option maxRecDepth 100000 in
theorem lead_lifted (os : Os) (started : os.Started) (H : Type) (enc : TypeId × Value → H) :
    ReturnsInHanded {} Tryd.checked os 7 .any (fun w args => (Rows.fnSeparatedLeadingSepAddsNothingSpec.pre enc Tryd.prog Tryd.f7 Rows.fnSeparatedLeadingSepAddsNothingRow.domain false w args ∧ laidMetH Tryd.prog Rows.fnSeparatedLeadingSepAddsNothingRow.laid w) ∧ sizedMet enc Tryd.prog Tryd.f7 (OpenSpec.ofChange Rows.fnSeparatedLeadingSepAddsNothingSpec) false w args)
      (Rows.fnSeparatedLeadingSepAddsNothingSpec.post enc Tryd.prog Tryd.f7 false true false false) := by
  refine handed_of_shaped_and (C := Tryd.checked) (X := fun w _ => laidMetH Tryd.prog Rows.fnSeparatedLeadingSepAddsNothingRow.laid w) (fun _ _ _ hh h => h.of_heap hh) own started (by kernel_rfl) Tryd.func7
    (ChangeSpec.witness_shaped (enc := enc) (C := Tryd.checked) (os := os) (X := fun w _ => laidMetH Tryd.prog Rows.fnSeparatedLeadingSepAddsNothingRow.laid w) false (World.laidAll Tryd.prog os Rows.fnSeparatedLeadingSepAddsNothingRow.laid) #[.string ⟨#[]⟩, .string ⟨#[]⟩] 8 (World.laidAll_os _ _ _)
      (World.shaped_of_ZipB (by kernel_rfl) (by kernel_rfl)) (by kernel_rfl) (by kernel_rfl) (by kernel_rfl)
      (by rw [MakeChecks.laidMetH_plain _ _ _ (by kernel_rfl)]; exact laidMet_laidAll _ (by kernel_rfl) (by kernel_rfl))) ?_
  intro W base args ds gs before hsh hval0 hW hL
  have hval : ∀ (j : Nat) t v, Tryd.f7.params[j]? = some t → args[j]? = some v → Value.okWide Tryd.prog W .any base t v := hval0
  have hW' := hW
  obtain ⟨p, q, hA0, hV, rfl, _, _⟩ := hW
  have hA : DataW.TrodAll enc Tryd.prog W 0 (fun _ => true) true Tryd.f7.params.toList args.toList ds p := hA0
  rw [Tryd.params7] at hA hval
  obtain ⟨v0, v1, d0, d1, p0, p1, rfl, rfl, rfl, h0, h1⟩ := trodAll_two hA
  obtain ⟨rfl, rfl⟩ := trodVars_none hV
  obtain ⟨s0, rfl, rfl, rfl, z0⟩ := ChangeMaps.open_string Tryd.underlying9 (hval 0 9 v0 rfl rfl) h0
  obtain ⟨s1, rfl, rfl, rfl, z1⟩ := ChangeMaps.open_string Tryd.underlying9 (hval 1 9 v1 rfl rfl) h1
  simp only [List.append_nil] at hW'
  rw [MakeChecks.laidMetH_plain _ _ _ (by kernel_rfl)] at hL
  obtain ⟨m, hm⟩ := maxLen_cell hsh
  refine (law_lead s0 s1 m W (vars_of hm hL) (by unfold maxLen at z0; omega) (by unfold maxLen at z1; omega)).mono fun e W' ⟨he, hb⟩ => ?_
  subst he
  exact ⟨_, rfl, _, _, _, [], [], [], hW', trodAll_mk1 (shut_bool Tryd.underlying4 _), trodAll_mk2 (ChangeMaps.shut_string Tryd.underlying9 z0) (ChangeMaps.shut_string Tryd.underlying9 z1), rfl, hb.frame _, fun h => by cases h⟩

theorem lead_row : Rows.FnSeparatedLeadingSepAddsNothingSaid :=
  OpenClaim.holds_of_wide 7 Tryd.f7 rfl rfl rfl rfl rfl rfl rfl ⟨rfl, rfl, rfl, rfl, rfl⟩ rfl rfl rfl rfl rfl (by kernel_rfl) Tryd.func7 facts
    (of_decide_eq_true (by kernel_rfl)) (by unfold Func.isWrapper; first | (rw [if_pos (by decide +kernel)]; kernel_rfl) | (rw [if_neg (by decide +kernel)]; exact ⟨rfl, rfl⟩))
    (fun os started H enc _ => lead_lifted os started H enc)
theorem lead_holds : Rows.FnSeparatedLeadingSepAddsNothingCardSaid :=
  Claim7.holds_tied_plain_at .later [] [.data, .listed, .data, .pinned] true (true, "edc8a795d874dba24ad6dddd5142e15d1c351e7a65031d13886fc589e3fe7028") false lead_row (fun _ h => by cases h) (by kernel_rfl) (fun _ h => by cases h) fnSeparatedLeadingSepAddsNothing_row_tie rfl ⟨rfl, rfl⟩ harness_eq rfl
    (fun f fn hf hfn => by
      obtain rfl : f = 7 := Option.some.inj ((show Tryd.prog.funcNamed Rows.fnSeparatedLeadingSepAddsNothingRow.func = some 7 by kernel_rfl).symm.trans hf) |>.symm
      obtain rfl : fn = Tryd.f7 := (Option.some.inj (Tryd.func7.symm.trans hfn)).symm
      exact ⟨by kernel_rfl, fun j t ht => by
        rw [Tryd.params7] at ht
        have hm : t ∈ [9, 9] := by simpa using Array.mem_of_getElem? ht
        have hall : ([9, 9].all fun u => !Tryd.prog.wantsStandIn u) = true := by kernel_rfl
        exact (show Tryd.prog.wantsStandIn t = false by simpa using List.all_eq_true.1 hall t hm)⟩)
    (by kernel_rfl)
end Go.Proofs.Qxb6609045aDoor
