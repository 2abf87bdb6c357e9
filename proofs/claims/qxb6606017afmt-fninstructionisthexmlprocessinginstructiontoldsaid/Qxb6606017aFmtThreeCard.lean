import Derived.Test.Qxb6606017aFmtFrame
import Derived.Test.Qxb6606017aFmtThree
import Derived.Carry
import Derived.ChangeMaps5
namespace Go.Proofs.Qxb6606017aFmt
open Go.ChangeShapes Go.WideShapes Go.ChangeAt Go.RowKit
open Go.Extern.Stop Go.Stop Go.Extern

/-- The numbers of an array that is laid. -/
def zsOf (d : DataW Unit) : List Int := match d with
  | .agg ds => ds.map fun | .lit (.int _ z) => z | _ => 0
  | _ => []
theorem fold_eq : (Rows.laid_unicode_asciiFold : DataW Unit) = Lib.tabData .u16 (zsOf Rows.laid_unicode_asciiFold) := by kernel_rfl
theorem fold_name : Tryf.prog.globalNamed "unicode.asciiFold" = some 2 := by kernel_rfl
theorem fold_type : (Tryf.prog.globals[2]?).map (·.type) = some 80 := by kernel_rfl
theorem folds_two {w : World} (hL : laidMet Tryf.prog Rows.fnInstructionIsTheXMLProcessingInstructionRow.laid w) : Folds w := by
  obtain ⟨g, t, cs, fuel, p, hg, hty, hvar, hd⟩ : Lib.VarReads Tryf.prog w "unicode.asciiFold" Rows.laid_unicode_asciiFold := Lib.laidMet.reads hL (.tail _ (.head _))
  obtain rfl := Option.some.inj (fold_name.symm.trans hg)
  obtain rfl := Option.some.inj (fold_type.symm.trans hty)
  rw [fold_eq] at hd
  have hcs := Lib.cells_of_tab Tryf.underlying80 Tryf.underlying79 (by kernel_rfl) (by kernel_rfl) hd
  intro q hq
  rw [World.var?_cell hg hvar q.1, ← Array.getElem?_toList, hcs]
  simp only [List.mem_cons, List.mem_nil_iff, or_false] at hq
  rcases hq with rfl | rfl | rfl | rfl | rfl | rfl <;> rfl

set_option maxRecDepth 100000 in
theorem proc_lifted (os : Os) (started : os.Started) (H : Type) (enc : TypeId × Value → H) :
    ReturnsInTold none {} Tryf.checked os 4 .any Input.okWide ((OpenSpec.ofChange Rows.fnInstructionIsTheXMLProcessingInstructionSpec).preRow enc Tryf.prog Tryf.f4 [] false Rows.fnInstructionIsTheXMLProcessingInstructionRow.laid)
      (fun F => ((OpenSpec.ofChange Rows.fnInstructionIsTheXMLProcessingInstructionSpec).at F).post enc Tryf.prog Tryf.f4 false true false false) (aloneAtReturn Tryf.prog) nothingAlways := by
  refine told_of_shaped (C := Tryf.checked) (s := OpenSpec.ofChange Rows.fnInstructionIsTheXMLProcessingInstructionSpec) (by kernel_rfl) own started (by kernel_rfl) Tryf.func4
    (told_witness (enc := enc) (C := Tryf.checked) (World.laidAll Tryf.prog os Rows.fnInstructionIsTheXMLProcessingInstructionRow.laid) #[.string ⟨#[]⟩, .int .i64 0] (World.laidAll_os _ _ _)
      (World.shaped_of_ZipB (by kernel_rfl) (by kernel_rfl)) (by kernel_rfl)
      (OpenSpec.preRow_of_B rfl 8 (by kernel_rfl) (by kernel_rfl) (by rw [MakeChecks.laidMetH_plain _ _ _ (by kernel_rfl)]; exact laidMet_laidAll _ (by kernel_rfl) (by kernel_rfl)))) ?_
  intro F W base args ds gs before hsh hval0 hW hL
  have hval : ∀ (j : Nat) t v, Tryf.f4.params[j]? = some t → args[j]? = some v → Value.okWide Tryf.prog W .any base t v := hval0
  have hW' := hW
  obtain ⟨p, q, hA0, hV, rfl, _, _⟩ := hW
  have hA : DataW.TrodAll enc Tryf.prog W 0 (fun _ => true) true Tryf.f4.params.toList args.toList ds p := hA0
  rw [Tryf.params4] at hA hval
  obtain ⟨v0, v1, d0, d1, p0, p1, rfl, rfl, rfl, h0, h1⟩ := trodAll_two hA
  obtain ⟨rfl, rfl⟩ := trodVars_none hV
  obtain ⟨s0, rfl, rfl, rfl, z0⟩ := ChangeMaps.open_string Tryf.underlying9 (hval 0 9 v0 rfl rfl) h0
  obtain ⟨x, rfl, rfl, rfl, wx⟩ := open_int Tryf.underlying3 (hval 1 3 v1 rfl rfl) h1
  simp only [List.append_nil] at hW'
  rw [MakeChecks.laidMetH_plain _ _ _ (by kernel_rfl)] at hL
  obtain ⟨m, hm⟩ := maxLen_cell hsh
  refine (law_is s0 x m W (by unfold maxLen at z0; omega) (tabs_two hL) (folds_two hL) hm).mono fun e W' ⟨hb, he⟩ => ?_
  subst he
  exact ⟨_, rfl, _, _, _, [], [], [], hW', trodAll_mk1 (shut_bool Tryf.underlying4 _), trodAll_mk2 (ChangeMaps.shut_string Tryf.underlying9 z0) (shut_int Tryf.underlying3 wx), rfl, hb.frame _, fun h => by cases h⟩

theorem proc_holds : Rows.FnInstructionIsTheXMLProcessingInstructionToldSaid :=
  Claim7.holds_of_told_tied_any_at .later 4 Tryf.f4 _ [] [] _ _ _ _ _ (by kernel_rfl) rfl rfl rfl laidOut (by kernel_rfl) rfl ⟨rfl, rfl, rfl, rfl, rfl, rfl, rfl⟩ rfl rfl (by kernel_rfl) (by kernel_rfl) Tryf.func4 (by kernel_rfl)
    (of_decide_eq_true (by kernel_rfl)) (of_decide_eq_true (by kernel_rfl)) (by kernel_rfl) rfl stopKnobs.symm (by kernel_rfl)
    (by kernel_rfl) (by kernel_rfl) (by kernel_rfl) (by kernel_rfl) (by kernel_rfl) (by kernel_rfl) (by kernel_rfl) (by kernel_rfl) (by kernel_rfl) rfl (by kernel_rfl) rfl rfl
    rfl rfl
    rfl (by kernel_rfl) (by kernel_rfl) (by kernel_rfl) (by decide) (by kernel_rfl) fnInstructionIsTheXMLProcessingInstruction_row_tie
    (OpenClaim.moreEntering_of (by kernel_rfl) (by kernel_rfl) (by kernel_rfl) (by kernel_rfl) (by kernel_rfl) (by kernel_rfl) (by kernel_rfl) (by kernel_rfl) (by kernel_rfl) (by kernel_rfl))
    ⟨_, WideRow.started_initial, quiet _⟩
    (fun os started _ H enc _ => proc_lifted os started H enc)
end Go.Proofs.Qxb6606017aFmt
