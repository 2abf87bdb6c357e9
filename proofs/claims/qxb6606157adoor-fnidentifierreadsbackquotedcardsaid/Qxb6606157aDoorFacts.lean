import Derived.Test.Qxb6606157aDoorCards
import Derived.JoinedOf
import Derived.ProofKit
namespace Go.Proofs.Qxb6606157aDoor
open Go.ChangeShapes Go.WideShapes Go.ChangeAt Go.RowKit
/-- The translation's first words. -/
def signs : List Char := ([104, 97, 114, 110, 101, 115, 115, 32, 50, 48, 56, 97, 50, 98, 53, 102, 55, 49, 56, 100, 97, 49, 49, 100, 48, 57, 54, 55, 56, 48, 54, 53, 102, 54, 97, 101, 98, 97, 48, 54, 49, 99, 100, 51, 54, 99, 100, 98, 97, 102, 55, 100, 56, 50, 57, 56, 97, 101, 50, 49, 54, 102, 50, 56, 98, 48, 55, 57, 57, 53, 55, 56, 32, 99, 117, 116, 32, 97, 116, 32, 101, 120, 97, 109, 112, 108, 101, 46, 99, 111, 109, 47, 103, 97, 112, 108, 105, 103, 104, 116, 47, 103, 97, 112, 108, 105, 103, 104, 116, 47, 122, 122, 108, 97, 119, 115, 95, 114, 101, 112, 111, 114, 116, 95, 98, 49, 46, 70, 110, 84, 114, 97, 110, 115, 97, 99, 116, 105, 111, 110, 76, 105, 110, 101, 80, 97, 114, 116, 115, 65, 110, 115, 119, 101, 114, 73, 115, 78, 111, 114, 109, 97, 108, 32, 101, 120, 97, 109, 112, 108, 101, 46, 99, 111, 109, 47, 103, 97, 112, 108, 105, 103, 104, 116, 47, 103, 97, 112, 108, 105, 103, 104, 116, 47, 122, 122, 108, 97, 119, 115, 95, 114, 101, 112, 111, 114, 116, 95, 98, 49, 46, 70, 110, 84, 114, 97, 110, 115, 97, 99, 116, 105, 111, 110, 76, 105, 110, 101, 80, 97, 114, 116, 115, 82, 101, 97, 100, 115, 83, 101, 114, 118, 101, 114, 76, 105, 110, 101, 32, 101, 120, 97, 109, 112, 108, 101, 46, 99, 111, 109, 47, 103, 97, 112, 108, 105, 103, 104, 116, 47, 103, 97, 112, 108, 105, 103, 104, 116, 47, 122, 122, 108, 97, 119, 115, 95, 114, 101, 112, 111, 114, 116, 95, 98, 49, 46, 70, 110, 84, 114, 97, 110, 115, 97, 99, 116, 105, 111, 110, 76, 105, 110, 101, 80, 97, 114, 116, 115, 73, 103, 110, 111, 114, 101, 115, 67, 111, 109, 109, 97, 84, 97, 105, 108, 32, 101, 120, 97, 109, 112, 108, 101, 46, 99, 111, 109, 47, 103, 97, 112, 108, 105, 103, 104, 116, 47, 103, 97, 112, 108, 105, 103, 104, 116, 47, 122, 122, 108, 97, 119, 115, 95, 114, 101, 112, 111, 114, 116, 95, 98, 49, 46, 70, 110, 73, 100, 101, 110, 116, 105, 102, 105, 101, 114, 82, 101, 97, 100, 115, 66, 97, 99, 107, 81, 117, 111, 116, 101, 100].map Char.ofNat)
def cutW : List Char := ([99, 117, 116].map Char.ofNat)
def restW : List (List Char) := [([97, 116].map Char.ofNat), ([101, 120, 97, 109, 112, 108, 101, 46, 99, 111, 109, 47, 103, 97, 112, 108, 105, 103, 104, 116, 47, 103, 97, 112, 108, 105, 103, 104, 116, 47, 122, 122, 108, 97, 119, 115, 95, 114, 101, 112, 111, 114, 116, 95, 98, 49, 46, 70, 110, 84, 114, 97, 110, 115, 97, 99, 116, 105, 111, 110, 76, 105, 110, 101, 80, 97, 114, 116, 115, 65, 110, 115, 119, 101, 114, 73, 115, 78, 111, 114, 109, 97, 108].map Char.ofNat), ([101, 120, 97, 109, 112, 108, 101, 46, 99, 111, 109, 47, 103, 97, 112, 108, 105, 103, 104, 116, 47, 103, 97, 112, 108, 105, 103, 104, 116, 47, 122, 122, 108, 97, 119, 115, 95, 114, 101, 112, 111, 114, 116, 95, 98, 49, 46, 70, 110, 84, 114, 97, 110, 115, 97, 99, 116, 105, 111, 110, 76, 105, 110, 101, 80, 97, 114, 116, 115, 82, 101, 97, 100, 115, 83, 101, 114, 118, 101, 114, 76, 105, 110, 101].map Char.ofNat), ([101, 120, 97, 109, 112, 108, 101, 46, 99, 111, 109, 47, 103, 97, 112, 108, 105, 103, 104, 116, 47, 103, 97, 112, 108, 105, 103, 104, 116, 47, 122, 122, 108, 97, 119, 115, 95, 114, 101, 112, 111, 114, 116, 95, 98, 49, 46, 70, 110, 84, 114, 97, 110, 115, 97, 99, 116, 105, 111, 110, 76, 105, 110, 101, 80, 97, 114, 116, 115, 73, 103, 110, 111, 114, 101, 115, 67, 111, 109, 109, 97, 84, 97, 105, 108].map Char.ofNat), ([101, 120, 97, 109, 112, 108, 101, 46, 99, 111, 109, 47, 103, 97, 112, 108, 105, 103, 104, 116, 47, 103, 97, 112, 108, 105, 103, 104, 116, 47, 122, 122, 108, 97, 119, 115, 95, 114, 101, 112, 111, 114, 116, 95, 98, 49, 46, 70, 110, 73, 100, 101, 110, 116, 105, 102, 105, 101, 114, 82, 101, 97, 100, 115, 66, 97, 99, 107, 81, 117, 111, 116, 101, 100].map Char.ofNat)]
theorem order_eq : Tryd.prog.initOrder = String.ofList signs := by kernel_rfl
theorem words_eq : behindMainWord (wordsSigns signs) = cutW :: restW := by kernel_rfl
theorem strip_eq : stripLifts liftWords (cutW :: restW) = ([], cutW :: restW) := by kernel_rfl
theorem lays_eq : Tryd.prog.laysLater = false := by kernel_rfl
theorem refl_eq : Tryd.prog.bearsReflect = false := by kernel_rfl
theorem door_eq : Tryd.prog.doorFits [] = true := by kernel_rfl
theorem enters_of {P : Program} {c : List Char} {rest : List (List Char)} (h : behindMainWord (wordsSigns P.initOrder.toList) = c :: rest) (hs : stripLifts liftWords (c :: rest) = ([], c :: rest)) (hc : c = "cut".toList) (hl : P.laysLater = false) (hr : P.bearsReflect = false) (hd : P.doorFits [] = true) : P.mayEnter = true := by
  unfold Program.mayEnter
  rw [h]
  simp only [hs, hl, hr, hd]
  subst hc
  simp
theorem enters : Tryd.prog.mayEnter = true := enters_of (by rw [order_eq, String.toList_ofList]; exact words_eq) strip_eq (by kernel_rfl) lays_eq refl_eq door_eq
theorem finals_of {P : Program} {rest : List (List Char)} (h : behindMainWord (wordsSigns P.initOrder.toList) = "cut".toList :: rest) (hs : stripLifts liftWords ("cut".toList :: rest) = ([], "cut".toList :: rest)) : P.liftsFinal = false := by
  unfold Program.liftsFinal Program.headLifts
  rw [h]
  simp only [hs]
  simp
theorem make_of {P : Program} {rest : List (List Char)} (h : behindMainWord (wordsSigns P.initOrder.toList) = "cut".toList :: rest) : P.make = some .cut := by
  unfold Program.make
  rw [h]
  simp
theorem cut_eq : cutW = "cut".toList := by kernel_rfl
theorem begins : behindMainWord (wordsSigns Tryd.prog.initOrder.toList) = "cut".toList :: restW := by rw [order_eq, String.toList_ofList, words_eq, cut_eq]
theorem finals_eq : Tryd.prog.liftsFinal = false := finals_of begins (by rw [← cut_eq]; exact strip_eq)
theorem make_eq : Tryd.prog.make = some .cut := make_of begins
theorem signs_eq : wordsSigns signs = ([104, 97, 114, 110, 101, 115, 115].map Char.ofNat) :: ([50, 48, 56, 97, 50, 98, 53, 102, 55, 49, 56, 100, 97, 49, 49, 100, 48, 57, 54, 55, 56, 48, 54, 53, 102, 54, 97, 101, 98, 97, 48, 54, 49, 99, 100, 51, 54, 99, 100, 98, 97, 102, 55, 100, 56, 50, 57, 56, 97, 101, 50, 49, 54, 102, 50, 56, 98, 48, 55, 57, 57, 53, 55, 56].map Char.ofNat) :: cutW :: restW := by kernel_rfl
theorem main_of {P : Program} {h : List Char} {t : List (List Char)} (x : List Char) (e : wordsSigns P.initOrder.toList = h :: x :: t) (hh : h = "harness".toList) (hx : isSumSigns x = true) : P.mainIs = some (true, x) := by
  unfold Program.mainIs
  rw [e]
  subst hh
  simp [hx]
theorem harness_eq : Tryd.prog.mainIs = some (true, ("208a2b5f718da11d09678065f6aeba061cd36cdbaf7d8298ae216f28b0799578" : String).toList) :=
  (main_of _ (by rw [order_eq, String.toList_ofList]; exact signs_eq) (by kernel_rfl) (by kernel_rfl)).trans (by kernel_rfl)
theorem fact0 : (Rows.fnIdentifierReadsBackQuotedRow.wf (OpenSpec.ofChange Rows.fnIdentifierReadsBackQuotedSpec)) = true := by kernel_rfl
theorem fact1 : (laidOutB Tryd.prog) = true := by kernel_rfl
theorem fact2 : (mapsRowed Tryd.prog) = true := by kernel_rfl
theorem fact3 : (Tryd.f6.params.all (Tryd.prog.readableRec ·)) = true := by kernel_rfl
theorem fact4 : (namedTie Tryd.prog Rows.fnIdentifierReadsBackQuotedRow.named Rows.fnIdentifierReadsBackQuotedSpec.vars) = true := by kernel_rfl
theorem fact5 : ((Rows.fnIdentifierReadsBackQuotedRow.stops == [])) = true := by kernel_rfl
theorem fact6 : ((Tryd.prog.stops == [])) = true := by kernel_rfl
theorem fact7 : ((Rows.fnIdentifierReadsBackQuotedRow.knobs == [])) = true := by kernel_rfl
theorem fact8 : ((Tryd.prog.stopKnobs == [])) = true := by kernel_rfl
theorem fact9 : ((Rows.fnIdentifierReadsBackQuotedRow.inPlace == Tryd.prog.inPlace 6)) = true := by kernel_rfl
theorem fact10 : ((Rows.fnIdentifierReadsBackQuotedRow.unfollowed == Tryd.prog.unfollowed 6)) = true := by kernel_rfl
theorem fact11 : ((Rows.fnIdentifierReadsBackQuotedRow.recurses == Tryd.prog.recurses 6)) = true := by kernel_rfl
theorem fact12 : ((Rows.fnIdentifierReadsBackQuotedRow.named == Tryd.prog.varsNamed 6)) = true := by kernel_rfl
theorem fact13 : ((Rows.fnIdentifierReadsBackQuotedRow.maps == (Tryd.f6.params.toList ++ Rows.fnIdentifierReadsBackQuotedSpec.plain.varTypes Tryd.prog).any (Tryd.prog.mapsRec ·))) = true := by kernel_rfl
theorem fact14 : ((Rows.fnIdentifierReadsBackQuotedRow.ifaces == (Tryd.f6.params.toList ++ Rows.fnIdentifierReadsBackQuotedSpec.plain.varTypes Tryd.prog).any (Tryd.prog.ifacesRec ·))) = true := by kernel_rfl
theorem fact15 : ((Rows.fnIdentifierReadsBackQuotedRow.mapsOut == Tryd.prog.mapsAmong Tryd.f6.resultTypes.toList)) = true := by kernel_rfl
theorem fact16 : ((Rows.fnIdentifierReadsBackQuotedRow.loops == (Tryd.f6.params.toList ++ Rows.fnIdentifierReadsBackQuotedSpec.plain.varTypes Tryd.prog).any (Tryd.prog.loopsFrom ·))) = true := by kernel_rfl
theorem fact17 : ((Rows.fnIdentifierReadsBackQuotedRow.wideKeys == (Tryd.f6.params.toList ++ Rows.fnIdentifierReadsBackQuotedSpec.plain.varTypes Tryd.prog ++ Tryd.f6.resultTypes.toList).any (Tryd.prog.wideKeysFrom ·))) = true := by kernel_rfl
theorem fact18 : (Rows.fnIdentifierReadsBackQuotedSpec.vars.all (Tryd.prog.varReadable ·)) = true := by kernel_rfl
theorem fact19 : (Tryd.f6.resultTypes.all (fun t => Tryd.prog.readableRec t && decide (t < Tryd.prog.types.size))) = true := by kernel_rfl
theorem fact20 : ((Rows.fnIdentifierReadsBackQuotedRow.ifacesOut == Tryd.f6.resultTypes.toList.any (Tryd.prog.ifacesRec ·))) = true := by kernel_rfl
theorem fact21 : ((Rows.fnIdentifierReadsBackQuotedRow.loopsOut == Tryd.f6.resultTypes.toList.any (Tryd.prog.loopsFrom ·))) = true := by kernel_rfl
theorem fact22 : ((Rows.fnIdentifierReadsBackQuotedRow.plainKeys == Tryd.prog.plainKeys)) = true := by kernel_rfl
theorem fact23 : (Rows.fnIdentifierReadsBackQuotedRow.shortTexts.isNone) = true := by kernel_rfl
theorem fact24 : (Tryd.prog.stopsHeard) = true := by kernel_rfl
theorem fact25 : (Tryd.prog.mayEnter) = true := enters
theorem fact26 : ((Rows.fnIdentifierReadsBackQuotedRow.lifted == Tryd.prog.liftsFinal)) = true := by rw [finals_eq]; rfl
theorem fact27 : ((Tryd.prog.make == some Rows.fnIdentifierReadsBackQuotedRow.make)) = true := by rw [make_eq]; rfl
theorem fact28 : ((Rows.fnIdentifierReadsBackQuotedRow.kinds == (if Rows.fnIdentifierReadsBackQuotedRow.domain.isEmpty then [] else Tryd.f6.params.toList.map fun t => match Tryd.prog.underlying t with | some (.int k) => some k | _ => none))) = true := by kernel_rfl
theorem fact29 : ((Rows.fnIdentifierReadsBackQuotedRow.pinned == Rows.fnIdentifierReadsBackQuotedRow.pinnedBy)) = true := by kernel_rfl
theorem fact30 : ((Rows.fnIdentifierReadsBackQuotedRow.veiled == (Tryd.f6.params.toList ++ Rows.fnIdentifierReadsBackQuotedSpec.plain.varTypes Tryd.prog ++ Tryd.f6.resultTypes.toList).any (Tryd.prog.veiledRec ·))) = true := by kernel_rfl
theorem fact31 : (Rows.fnIdentifierReadsBackQuotedRow.veiledFits Tryd.prog Tryd.f6.params.toList (Tryd.f6.params.toList ++ Rows.fnIdentifierReadsBackQuotedSpec.plain.varTypes Tryd.prog ++ Tryd.f6.resultTypes.toList)) = true := by kernel_rfl
set_option maxRecDepth 100000 in
theorem facts : joinedFacts Tryd.prog 6 Tryd.f6 Rows.fnIdentifierReadsBackQuotedSpec Rows.fnIdentifierReadsBackQuotedRow = true :=
  Bool.and_eq_true_iff.2 ⟨Bool.and_eq_true_iff.2 ⟨Bool.and_eq_true_iff.2 ⟨Bool.and_eq_true_iff.2 ⟨Bool.and_eq_true_iff.2 ⟨Bool.and_eq_true_iff.2 ⟨Bool.and_eq_true_iff.2 ⟨Bool.and_eq_true_iff.2 ⟨Bool.and_eq_true_iff.2 ⟨Bool.and_eq_true_iff.2 ⟨Bool.and_eq_true_iff.2 ⟨Bool.and_eq_true_iff.2 ⟨Bool.and_eq_true_iff.2 ⟨Bool.and_eq_true_iff.2 ⟨Bool.and_eq_true_iff.2 ⟨Bool.and_eq_true_iff.2 ⟨Bool.and_eq_true_iff.2 ⟨Bool.and_eq_true_iff.2 ⟨Bool.and_eq_true_iff.2 ⟨Bool.and_eq_true_iff.2 ⟨Bool.and_eq_true_iff.2 ⟨Bool.and_eq_true_iff.2 ⟨Bool.and_eq_true_iff.2 ⟨Bool.and_eq_true_iff.2 ⟨Bool.and_eq_true_iff.2 ⟨Bool.and_eq_true_iff.2 ⟨Bool.and_eq_true_iff.2 ⟨Bool.and_eq_true_iff.2 ⟨Bool.and_eq_true_iff.2 ⟨Bool.and_eq_true_iff.2 ⟨Bool.and_eq_true_iff.2 ⟨fact0, fact1⟩, fact2⟩, fact3⟩, fact4⟩, fact5⟩, fact6⟩, fact7⟩, fact8⟩, fact9⟩, fact10⟩, fact11⟩, fact12⟩, fact13⟩, fact14⟩, fact15⟩, fact16⟩, fact17⟩, fact18⟩, fact19⟩, fact20⟩, fact21⟩, fact22⟩, fact23⟩, fact24⟩, fact25⟩, fact26⟩, fact27⟩, fact28⟩, fact29⟩, fact30⟩, fact31⟩
end Go.Proofs.Qxb6606157aDoor
