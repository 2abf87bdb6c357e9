import Derived.Test.Qxb6606157aDoorCards
import Derived.JoinedOf
import Derived.ProofKit
namespace Go.Proofs.Qxb6606157aDoor
open Go.ChangeShapes Go.WideShapes Go.ChangeAt Go.RowKit
/-- The translation's first words. -/
def signs : List Char := ['h', 'a', 'r', 'n', 'e', 's', 's', ' ', '2', '0', '8', 'a', '2', 'b', '5', 'f', '7', '1', '8', 'd', 'a', '1', '1', 'd', '0', '9', '6', '7', '8', '0', '6', '5', 'f', '6', 'a', 'e', 'b', 'a', '0', '6', '1', 'c', 'd', '3', '6', 'c', 'd', 'b', 'a', 'f', '7', 'd', '8', '2', '9', '8', 'a', 'e', '2', '1', '6', 'f', '2', '8', 'b', '0', '7', '9', '9', '5', '7', '8', ' ', 'c', 'u', 't', ' ', 'a', 't', ' ', 'e', 'x', 'a', 'm', 'p', 'l', 'e', '.', 'c', 'o', 'm', '/', 'g', 'a', 'p', 'l', 'i', 'g', 'h', 't', '/', 'g', 'a', 'p', 'l', 'i', 'g', 'h', 't', '/', 'z', 'z', 'l', 'a', 'w', 's', '_', 'r', 'e', 'p', 'o', 'r', 't', '_', 'b', '1', '.', 'F', 'n', 'T', 'r', 'a', 'n', 's', 'a', 'c', 't', 'i', 'o', 'n', 'L', 'i', 'n', 'e', 'P', 'a', 'r', 't', 's', 'A', 'n', 's', 'w', 'e', 'r', 'I', 's', 'N', 'o', 'r', 'm', 'a', 'l', ' ', 'e', 'x', 'a', 'm', 'p', 'l', 'e', '.', 'c', 'o', 'm', '/', 'g', 'a', 'p', 'l', 'i', 'g', 'h', 't', '/', 'g', 'a', 'p', 'l', 'i', 'g', 'h', 't', '/', 'z', 'z', 'l', 'a', 'w', 's', '_', 'r', 'e', 'p', 'o', 'r', 't', '_', 'b', '1', '.', 'F', 'n', 'T', 'r', 'a', 'n', 's', 'a', 'c', 't', 'i', 'o', 'n', 'L', 'i', 'n', 'e', 'P', 'a', 'r', 't', 's', 'R', 'e', 'a', 'd', 's', 'S', 'e', 'r', 'v', 'e', 'r', 'L', 'i', 'n', 'e', ' ', 'e', 'x', 'a', 'm', 'p', 'l', 'e', '.', 'c', 'o', 'm', '/', 'g', 'a', 'p', 'l', 'i', 'g', 'h', 't', '/', 'g', 'a', 'p', 'l', 'i', 'g', 'h', 't', '/', 'z', 'z', 'l', 'a', 'w', 's', '_', 'r', 'e', 'p', 'o', 'r', 't', '_', 'b', '1', '.', 'F', 'n', 'T', 'r', 'a', 'n', 's', 'a', 'c', 't', 'i', 'o', 'n', 'L', 'i', 'n', 'e', 'P', 'a', 'r', 't', 's', 'I', 'g', 'n', 'o', 'r', 'e', 's', 'C', 'o', 'm', 'm', 'a', 'T', 'a', 'i', 'l', ' ', 'e', 'x', 'a', 'm', 'p', 'l', 'e', '.', 'c', 'o', 'm', '/', 'g', 'a', 'p', 'l', 'i', 'g', 'h', 't', '/', 'g', 'a', 'p', 'l', 'i', 'g', 'h', 't', '/', 'z', 'z', 'l', 'a', 'w', 's', '_', 'r', 'e', 'p', 'o', 'r', 't', '_', 'b', '1', '.', 'F', 'n', 'I', 'd', 'e', 'n', 't', 'i', 'f', 'i', 'e', 'r', 'R', 'e', 'a', 'd', 's', 'B', 'a', 'c', 'k', 'Q', 'u', 'o', 't', 'e', 'd']
def cutW : List Char := ['c', 'u', 't']
def restW : List (List Char) := [['a', 't'], ['e', 'x', 'a', 'm', 'p', 'l', 'e', '.', 'c', 'o', 'm', '/', 'g', 'a', 'p', 'l', 'i', 'g', 'h', 't', '/', 'g', 'a', 'p', 'l', 'i', 'g', 'h', 't', '/', 'z', 'z', 'l', 'a', 'w', 's', '_', 'r', 'e', 'p', 'o', 'r', 't', '_', 'b', '1', '.', 'F', 'n', 'T', 'r', 'a', 'n', 's', 'a', 'c', 't', 'i', 'o', 'n', 'L', 'i', 'n', 'e', 'P', 'a', 'r', 't', 's', 'A', 'n', 's', 'w', 'e', 'r', 'I', 's', 'N', 'o', 'r', 'm', 'a', 'l'], ['e', 'x', 'a', 'm', 'p', 'l', 'e', '.', 'c', 'o', 'm', '/', 'g', 'a', 'p', 'l', 'i', 'g', 'h', 't', '/', 'g', 'a', 'p', 'l', 'i', 'g', 'h', 't', '/', 'z', 'z', 'l', 'a', 'w', 's', '_', 'r', 'e', 'p', 'o', 'r', 't', '_', 'b', '1', '.', 'F', 'n', 'T', 'r', 'a', 'n', 's', 'a', 'c', 't', 'i', 'o', 'n', 'L', 'i', 'n', 'e', 'P', 'a', 'r', 't', 's', 'R', 'e', 'a', 'd', 's', 'S', 'e', 'r', 'v', 'e', 'r', 'L', 'i', 'n', 'e'], ['e', 'x', 'a', 'm', 'p', 'l', 'e', '.', 'c', 'o', 'm', '/', 'g', 'a', 'p', 'l', 'i', 'g', 'h', 't', '/', 'g', 'a', 'p', 'l', 'i', 'g', 'h', 't', '/', 'z', 'z', 'l', 'a', 'w', 's', '_', 'r', 'e', 'p', 'o', 'r', 't', '_', 'b', '1', '.', 'F', 'n', 'T', 'r', 'a', 'n', 's', 'a', 'c', 't', 'i', 'o', 'n', 'L', 'i', 'n', 'e', 'P', 'a', 'r', 't', 's', 'I', 'g', 'n', 'o', 'r', 'e', 's', 'C', 'o', 'm', 'm', 'a', 'T', 'a', 'i', 'l'], ['e', 'x', 'a', 'm', 'p', 'l', 'e', '.', 'c', 'o', 'm', '/', 'g', 'a', 'p', 'l', 'i', 'g', 'h', 't', '/', 'g', 'a', 'p', 'l', 'i', 'g', 'h', 't', '/', 'z', 'z', 'l', 'a', 'w', 's', '_', 'r', 'e', 'p', 'o', 'r', 't', '_', 'b', '1', '.', 'F', 'n', 'I', 'd', 'e', 'n', 't', 'i', 'f', 'i', 'e', 'r', 'R', 'e', 'a', 'd', 's', 'B', 'a', 'c', 'k', 'Q', 'u', 'o', 't', 'e', 'd']]
theorem order_eq : Tryd.prog.initOrder = String.ofList signs := by kernel_rfl
theorem words_eq : behindMainWord (wordsSigns signs) = cutW :: restW := by kernel_rfl
theorem strip_eq : stripLifts liftWords (cutW :: restW) = ([], cutW :: restW) := by kernel_rfl
theorem lays_eq : Tryd.prog.laysLater = false := by kernel_rfl
theorem refl_eq : Tryd.prog.bearsReflect = false := by kernel_rfl
theorem door_eq : Tryd.prog.doorFits [] = true := by kernel_rfl
theorem enters_of {P : Program} {c : List Char} {rest : List (List Char)} (h : behindMainWord (wordsSigns P.initOrder.toList) = c :: rest) (hs : stripLifts liftWords (c :: rest) = ([], c :: rest)) (hc : c = "cut".toList) (hl : P.laysLater = false) (hr : P.bearsReflect = false) (hd : P.doorFits [] = true) : P.mayEnter = true := by
  unfold Program.mayEnter
  rw [h]
  simp only [hs, hl, hr, hd]
  subst hc
  simp
theorem enters : Tryd.prog.mayEnter = true := enters_of (by rw [order_eq, String.toList_ofList]; exact words_eq) strip_eq (by kernel_rfl) lays_eq refl_eq door_eq
theorem finals_of {P : Program} {rest : List (List Char)} (h : behindMainWord (wordsSigns P.initOrder.toList) = "cut".toList :: rest) (hs : stripLifts liftWords ("cut".toList :: rest) = ([], "cut".toList :: rest)) : P.liftsFinal = false := by
  unfold Program.liftsFinal Program.headLifts
  rw [h]
  simp only [hs]
  simp
theorem make_of {P : Program} {rest : List (List Char)} (h : behindMainWord (wordsSigns P.initOrder.toList) = "cut".toList :: rest) : P.make = some .cut := by
  unfold Program.make
  rw [h]
  simp
theorem cut_eq : cutW = "cut".toList := by kernel_rfl
theorem begins : behindMainWord (wordsSigns Tryd.prog.initOrder.toList) = "cut".toList :: restW := by rw [order_eq, String.toList_ofList, words_eq, cut_eq]
theorem finals_eq : Tryd.prog.liftsFinal = false := finals_of begins (by rw [← cut_eq]; exact strip_eq)
theorem make_eq : Tryd.prog.make = some .cut := make_of begins
theorem signs_eq : wordsSigns signs = ['h', 'a', 'r', 'n', 'e', 's', 's'] :: ['2', '0', '8', 'a', '2', 'b', '5', 'f', '7', '1', '8', 'd', 'a', '1', '1', 'd', '0', '9', '6', '7', '8', '0', '6', '5', 'f', '6', 'a', 'e', 'b', 'a', '0', '6', '1', 'c', 'd', '3', '6', 'c', 'd', 'b', 'a', 'f', '7', 'd', '8', '2', '9', '8', 'a', 'e', '2', '1', '6', 'f', '2', '8', 'b', '0', '7', '9', '9', '5', '7', '8'] :: cutW :: restW := by kernel_rfl
theorem main_of {P : Program} {h : List Char} {t : List (List Char)} (x : List Char) (e : wordsSigns P.initOrder.toList = h :: x :: t) (hh : h = "harness".toList) (hx : isSumSigns x = true) : P.mainIs = some (true, x) := by
  unfold Program.mainIs
  rw [e]
  subst hh
  simp [hx]
theorem harness_eq : Tryd.prog.mainIs = some (true, ("208a2b5f718da11d09678065f6aeba061cd36cdbaf7d8298ae216f28b0799578" : String).toList) :=
  (main_of _ (by rw [order_eq, String.toList_ofList]; exact signs_eq) (by kernel_rfl) (by kernel_rfl)).trans (by kernel_rfl)
theorem fact0 : (Rows.fnIdentifierReadsBackQuotedRow.wf (OpenSpec.ofChange Rows.fnIdentifierReadsBackQuotedSpec)) = true := by kernel_rfl
theorem fact1 : (laidOutB Tryd.prog) = true := by kernel_rfl
theorem fact2 : (mapsRowed Tryd.prog) = true := by kernel_rfl
theorem fact3 : (Tryd.f6.params.all (Tryd.prog.readableRec ·)) = true := by kernel_rfl
theorem fact4 : (namedTie Tryd.prog Rows.fnIdentifierReadsBackQuotedRow.named Rows.fnIdentifierReadsBackQuotedSpec.vars) = true := by kernel_rfl
theorem fact5 : ((Rows.fnIdentifierReadsBackQuotedRow.stops == [])) = true := by kernel_rfl
theorem fact6 : ((Tryd.prog.stops == [])) = true := by kernel_rfl
theorem fact7 : ((Rows.fnIdentifierReadsBackQuotedRow.knobs == [])) = true := by kernel_rfl
theorem fact8 : ((Tryd.prog.stopKnobs == [])) = true := by kernel_rfl
theorem fact9 : ((Rows.fnIdentifierReadsBackQuotedRow.inPlace == Tryd.prog.inPlace 6)) = true := by kernel_rfl
theorem fact10 : ((Rows.fnIdentifierReadsBackQuotedRow.unfollowed == Tryd.prog.unfollowed 6)) = true := by kernel_rfl
theorem fact11 : ((Rows.fnIdentifierReadsBackQuotedRow.recurses == Tryd.prog.recurses 6)) = true := by kernel_rfl
theorem fact12 : ((Rows.fnIdentifierReadsBackQuotedRow.named == Tryd.prog.varsNamed 6)) = true := by kernel_rfl
theorem fact13 : ((Rows.fnIdentifierReadsBackQuotedRow.maps == (Tryd.f6.params.toList ++ Rows.fnIdentifierReadsBackQuotedSpec.plain.varTypes Tryd.prog).any (Tryd.prog.mapsRec ·))) = true := by kernel_rfl
theorem fact14 : ((Rows.fnIdentifierReadsBackQuotedRow.ifaces == (Tryd.f6.params.toList ++ Rows.fnIdentifierReadsBackQuotedSpec.plain.varTypes Tryd.prog).any (Tryd.prog.ifacesRec ·))) = true := by kernel_rfl
theorem fact15 : ((Rows.fnIdentifierReadsBackQuotedRow.mapsOut == Tryd.prog.mapsAmong Tryd.f6.resultTypes.toList)) = true := by kernel_rfl
theorem fact16 : ((Rows.fnIdentifierReadsBackQuotedRow.loops == (Tryd.f6.params.toList ++ Rows.fnIdentifierReadsBackQuotedSpec.plain.varTypes Tryd.prog).any (Tryd.prog.loopsFrom ·))) = true := by kernel_rfl
theorem fact17 : ((Rows.fnIdentifierReadsBackQuotedRow.wideKeys == (Tryd.f6.params.toList ++ Rows.fnIdentifierReadsBackQuotedSpec.plain.varTypes Tryd.prog ++ Tryd.f6.resultTypes.toList).any (Tryd.prog.wideKeysFrom ·))) = true := by kernel_rfl
theorem fact18 : (Rows.fnIdentifierReadsBackQuotedSpec.vars.all (Tryd.prog.varReadable ·)) = true := by kernel_rfl
theorem fact19 : (Tryd.f6.resultTypes.all (fun t => Tryd.prog.readableRec t && decide (t < Tryd.prog.types.size))) = true := by kernel_rfl
theorem fact20 : ((Rows.fnIdentifierReadsBackQuotedRow.ifacesOut == Tryd.f6.resultTypes.toList.any (Tryd.prog.ifacesRec ·))) = true := by kernel_rfl
theorem fact21 : ((Rows.fnIdentifierReadsBackQuotedRow.loopsOut == Tryd.f6.resultTypes.toList.any (Tryd.prog.loopsFrom ·))) = true := by kernel_rfl
theorem fact22 : ((Rows.fnIdentifierReadsBackQuotedRow.plainKeys == Tryd.prog.plainKeys)) = true := by kernel_rfl
theorem fact23 : (Rows.fnIdentifierReadsBackQuotedRow.shortTexts.isNone) = true := by kernel_rfl
theorem fact24 : (Tryd.prog.stopsHeard) = true := by kernel_rfl
theorem fact25 : (Tryd.prog.mayEnter) = true := enters
theorem fact26 : ((Rows.fnIdentifierReadsBackQuotedRow.lifted == Tryd.prog.liftsFinal)) = true := by rw [finals_eq]; rfl
theorem fact27 : ((Tryd.prog.make == some Rows.fnIdentifierReadsBackQuotedRow.make)) = true := by rw [make_eq]; rfl
theorem fact28 : ((Rows.fnIdentifierReadsBackQuotedRow.kinds == (if Rows.fnIdentifierReadsBackQuotedRow.domain.isEmpty then [] else Tryd.f6.params.toList.map fun t => match Tryd.prog.underlying t with | some (.int k) => some k | _ => none))) = true := by kernel_rfl
theorem fact29 : ((Rows.fnIdentifierReadsBackQuotedRow.pinned == Rows.fnIdentifierReadsBackQuotedRow.pinnedBy)) = true := by kernel_rfl
theorem fact30 : ((Rows.fnIdentifierReadsBackQuotedRow.veiled == (Tryd.f6.params.toList ++ Rows.fnIdentifierReadsBackQuotedSpec.plain.varTypes Tryd.prog ++ Tryd.f6.resultTypes.toList).any (Tryd.prog.veiledRec ·))) = true := by kernel_rfl
theorem fact31 : (Rows.fnIdentifierReadsBackQuotedRow.veiledFits Tryd.prog Tryd.f6.params.toList (Tryd.f6.params.toList ++ Rows.fnIdentifierReadsBackQuotedSpec.plain.varTypes Tryd.prog ++ Tryd.f6.resultTypes.toList)) = true := by kernel_rfl
set_option maxRecDepth 100000 in
theorem facts : joinedFacts Tryd.prog 6 Tryd.f6 Rows.fnIdentifierReadsBackQuotedSpec Rows.fnIdentifierReadsBackQuotedRow = true :=
  Bool.and_eq_true_iff.2 ⟨Bool.and_eq_true_iff.2 ⟨Bool.and_eq_true_iff.2 ⟨Bool.and_eq_true_iff.2 ⟨Bool.and_eq_true_iff.2 ⟨Bool.and_eq_true_iff.2 ⟨Bool.and_eq_true_iff.2 ⟨Bool.and_eq_true_iff.2 ⟨Bool.and_eq_true_iff.2 ⟨Bool.and_eq_true_iff.2 ⟨Bool.and_eq_true_iff.2 ⟨Bool.and_eq_true_iff.2 ⟨Bool.and_eq_true_iff.2 ⟨Bool.and_eq_true_iff.2 ⟨Bool.and_eq_true_iff.2 ⟨Bool.and_eq_true_iff.2 ⟨Bool.and_eq_true_iff.2 ⟨Bool.and_eq_true_iff.2 ⟨Bool.and_eq_true_iff.2 ⟨Bool.and_eq_true_iff.2 ⟨Bool.and_eq_true_iff.2 ⟨Bool.and_eq_true_iff.2 ⟨Bool.and_eq_true_iff.2 ⟨Bool.and_eq_true_iff.2 ⟨Bool.and_eq_true_iff.2 ⟨Bool.and_eq_true_iff.2 ⟨Bool.and_eq_true_iff.2 ⟨Bool.and_eq_true_iff.2 ⟨Bool.and_eq_true_iff.2 ⟨Bool.and_eq_true_iff.2 ⟨Bool.and_eq_true_iff.2 ⟨fact0, fact1⟩, fact2⟩, fact3⟩, fact4⟩, fact5⟩, fact6⟩, fact7⟩, fact8⟩, fact9⟩, fact10⟩, fact11⟩, fact12⟩, fact13⟩, fact14⟩, fact15⟩, fact16⟩, fact17⟩, fact18⟩, fact19⟩, fact20⟩, fact21⟩, fact22⟩, fact23⟩, fact24⟩, fact25⟩, fact26⟩, fact27⟩, fact28⟩, fact29⟩, fact30⟩, fact31⟩
end Go.Proofs.Qxb6606157aDoor
