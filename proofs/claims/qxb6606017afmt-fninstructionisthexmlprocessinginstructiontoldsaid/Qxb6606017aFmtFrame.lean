import Derived.Test.Qxb6606017aFmtCards
import Derived.Test.Qxb6606017aFmtTie
import Derived.Test.Qxb6606017aFmtShelf
import Derived.ProofKit
import Derived.Stop.JoinedTold
import Derived.SevenTiedAt
import Derived.Lay
import Derived.PinnedBridge
import Derived.Lib.LaidU8
import Derived.LaidMore
namespace Go.Proofs.Qxb6606017aFmt
open Go.ChangeShapes Go.WideShapes Go.ChangeAt Go.RowKit
open Go.Extern.Stop Go.Stop Go.Extern
section
variable {H : Type} {enc : TypeId × Value → H}

/-- From a contract to a told row's claim, where the contract asks for the shape of the world in which the call begins. -/
theorem told_of_shaped {C : Checked} {os : Os} {f : FuncId} {fn : Func} {s : OpenSpec} {conds : List PathCond} {apart fresh handsOn again : Bool} {laid : List (String × DataW Unit)}
    (enter : C.prog.mayEnter = true) (own : ownKnob C.prog.godebug = none) (started : os.Started) (noInit : C.prog.inits.idxOf? f = none) (hfn : C.prog.funcs[f]? = some fn)
    (witness : ∀ F : Stop.Interp, ∃ (w : World) (tape : Tape) (i : Input), w.os = os ∧ (w.forCall tape i).Shaped C.prog ∧ i.vars = [] ∧ Input.okWide C.prog (w.forCall tape i) .any w.heap.size f i ∧
      s.preRow enc C.prog fn conds apart laid (w.forCall tape i).memory i.args ∧ ({} : Assume).holds C.prog (lone (Frame.enter C.prog f i.args .normal) [] (w.forCall tape i)) ∧ F.answers tape)
    (contract : ∀ (F : Stop.Interp) (W : World) (base : Nat) (args : Array Value) (ds gs : List (DataW H)) (before : List MemPlace), W.ShapedOpen C.prog →
      (∀ (j : Nat) t v, fn.params[j]? = some t → args[j]? = some v → Value.okWide C.prog W .any base t v) →
      DataW.Whole enc C.prog fn.params.toList s.vars apart W args.toList ds gs before →
      laidMetH C.prog laid W →
      Calls C.prog f args W fun e W' => ∃ v, e = .returned v ∧ (s.at F.told).post enc C.prog fn apart fresh handsOn again W args v W') :
    ReturnsInTold none {} C os f .any Input.okWide (s.preRow enc C.prog fn conds apart laid) (fun F => (s.at F).post enc C.prog fn apart fresh handsOn again) (aloneAtReturn C.prog) nothingAlways := by
  intro F
  show ReturnsInOpen {} (some F.told) C os f .any Input.okWide _ _ (aloneAtReturn C.prog) nothingAlways
  refine returnsInOpen_of_calls_wide enter own started noInit (witness F.told) ?_
  intro w tape i _ hsh _ hok hpre _ _
  obtain ⟨_, _, _, fn', hfn', _, _, _, _, hval⟩ := hok
  obtain rfl : fn' = fn := Option.some.inj (hfn'.symm.trans hfn)
  obtain ⟨⟨hp, hl⟩, _⟩ := hpre
  obtain ⟨ds, gs, before, hw, _, _⟩ := OpenSpec.pre_parts hp
  refine (contract F (w.forCall tape i) w.heap.size i.args ds gs before hsh hval (DataW.Whole.of_heap (w' := w.forCall tape i) (by rfl) hw) (hl.of_heap (by rfl))).mono fun e W' ⟨v, he, hq⟩ => ?_
  subst he
  exact ChangeSpec.post_blind hq

/-- 'There is an input that fits', the world's shape given. -/
theorem told_witness {C : Checked} {os : Os} {f : FuncId} {fn : Func} {s : OpenSpec} {conds : List PathCond} {apart : Bool} {laid : List (String × DataW Unit)} (w0 : World) (args : Array Value) (hos : w0.os = os)
    (hsh : (w0.forCall (fun _ _ => 0) ⟨#[], args, []⟩).Shaped C.prog)
    (hok : Input.okWideB C.prog (w0.forCall (fun _ _ => 0) ⟨#[], args, []⟩) f ⟨#[], args, []⟩ = true)
    (hrow : s.preRow enc C.prog fn conds apart laid (w0.forCall (fun _ _ => 0) ⟨#[], args, []⟩).memory args) (F : Stop.Interp) :
    ∃ (w : World) (tape : Tape) (i : Input), w.os = os ∧ (w.forCall tape i).Shaped C.prog ∧ i.vars = [] ∧ Input.okWide C.prog (w.forCall tape i) .any w.heap.size f i ∧
      s.preRow enc C.prog fn conds apart laid (w.forCall tape i).memory i.args ∧ ({} : Assume).holds C.prog (lone (Frame.enter C.prog f i.args .normal) [] (w.forCall tape i)) ∧ F.answers tape :=
  ⟨w0, F.over fun _ _ => 0, ⟨#[], args, []⟩, hos, hsh, (Input.okWide_of_okWideB (base := 0) hok).1, (Input.okWide_of_okWideB hok).2, hrow, by
    simp only [Assume.holds]
    exact ⟨by simp, by simp, by simp, by simp, by simp⟩, F.over_answers _⟩
end

theorem own : ownKnob Tryf.prog.godebug = none := by kernel_rfl
theorem laidOut : laidOutB Tryf.pinned.checked.prog = true := by kernel_rfl
theorem stopKnobs : Tryf.pinned.checked.prog.stopKnobs = [] := by kernel_rfl
theorem quiet (os : Os) : Stop.quiet Tryf.pinned.checked.prog os := by
  intro k hk
  rw [stopKnobs] at hk
  cases hk
theorem maxLen_cell {w : World} (h : w.ShapedOpen Tryf.prog) : ∃ m, w.cell? ⟨5, 0, none⟩ = some (.int .i64 m) := Tryf.laysM143.s1_3 w h
theorem u8Extra : U8Extra Tryf.prog Tryf.lays260_ren := ⟨by kernel_rfl, by kernel_rfl, by kernel_rfl, by kernel_rfl, by kernel_rfl, by kernel_rfl, by kernel_rfl⟩
theorem accept_eq : Rows.laid_unicode_utf8_acceptRanges = Lib.acceptData := by kernel_rfl
theorem first_eq : Rows.laid_unicode_utf8_first = Lib.firstData := Pinned.utf8First_eq
/-- What the rows list of unicode/utf8 pays the decoder's contract. -/
theorem tabs_one {w : World} (hL : laidMet Tryf.prog Rows.fnNameReaderTakesExactlyTheNameCharsRow.laid w) : Lib.Utf8Tabs 0 1 w :=
  utf8Tabs_of_reads Tryf.lays260 u8Extra (by rw [← first_eq]; exact Lib.laidMet.reads hL (.tail _ (.head _))) (by rw [← accept_eq]; exact Lib.laidMet.reads hL (.head _))
theorem tabs_two {w : World} (hL : laidMet Tryf.prog Rows.fnInstructionIsTheXMLProcessingInstructionRow.laid w) : Lib.Utf8Tabs 0 1 w :=
  utf8Tabs_of_reads Tryf.lays260 u8Extra (by rw [← first_eq]; exact Lib.laidMet.reads hL (.tail _ (.tail _ (.tail _ (.tail _ (.head _)))))) (by rw [← accept_eq]; exact Lib.laidMet.reads hL (.head _))
end Go.Proofs.Qxb6606017aFmt
