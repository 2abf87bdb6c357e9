import Derived.Test.Qxb6606142aDoorCards
import Derived.JoinedOf
import Derived.ProofKit
namespace Go.Proofs.Qxb6606142aDoor
open Go.ChangeShapes Go.WideShapes Go.ChangeAt Go.RowKit
/-- The translation's first words. -/
def signs : List Char := ['h', 'a', 'r', 'n', 'e', 's', 's', ' ', 'c', '7', '3', '8', 'e', '2', '1', 'b', '2', '4', '7', '1', '1', '7', '3', '6', '3', '1', 'e', '6', 'c', 'b', 'b', '6', 'c', '7', '8', '5', '1', 'f', '7', '8', 'a', 'c', '5', '4', '0', '6', '5', '2', '2', '9', 'd', '3', '7', '3', '6', '1', '9', 'e', 'a', '0', '6', '5', 'a', '4', 'c', '9', '3', '2', 'e', '2', '0', 'e', ' ', 'c', 'u', 't', ' ', 'a', 't', ' ', 'e', 'x', 'a', 'm', 'p', 'l', 'e', '.', 'c', 'o', 'm', '/', 'o', 'u', 't', 'r', 'i', 'd', 'e', 'r', '/', 'o', 'u', 't', 'r', 'i', 'd', 'e', 'r', '/', 'z', 'z', 'l', 'a', 'w', 's', '_', 'i', 'n', 't', 'e', 'r', 'n', 'a', 'l', '_', 'c', 'o', 'n', 'n', 'e', 'c', 't', 'c', 'o', 'n', 'f', 'i', 'g', '_', 'b', '1', '.', 'F', 'n', 'J', 'a', 'a', 's', 'T', 'o', 'k', 'e', 'n', 's', 'R', 'e', 'a', 'd', 's', 'B', 'a', 'c', 'k', 'Q', 'u', 'o', 't', 'e', 'd', 'T', 'o', 'k', 'e', 'n', 's', ' ', 'e', 'x', 'a', 'm', 'p', 'l', 'e', '.', 'c', 'o', 'm', '/', 'o', 'u', 't', 'r', 'i', 'd', 'e', 'r', '/', 'o', 'u', 't', 'r', 'i', 'd', 'e', 'r', '/', 'z', 'z', 'l', 'a', 'w', 's', '_', 'i', 'n', 't', 'e', 'r', 'n', 'a', 'l', '_', 'c', 'o', 'n', 'n', 'e', 'c', 't', 'c', 'o', 'n', 'f', 'i', 'g', '_', 'b', '1', '.', 'F', 'n', 'J', 'A', 'A', 'S', 'O', 'p', 't', 'i', 'o', 'n', 'F', 'i', 'n', 'd', 's', 'F', 'i', 'r', 's', 't', 'Q', 'u', 'o', 't', 'e', 'd', 'O', 'p', 't', 'i', 'o', 'n', ' ', 'e', 'x', 'a', 'm', 'p', 'l', 'e', '.', 'c', 'o', 'm', '/', 'o', 'u', 't', 'r', 'i', 'd', 'e', 'r', '/', 'o', 'u', 't', 'r', 'i', 'd', 'e', 'r', '/', 'z', 'z', 'l', 'a', 'w', 's', '_', 'i', 'n', 't', 'e', 'r', 'n', 'a', 'l', '_', 'c', 'o', 'n', 'n', 'e', 'c', 't', 'c', 'o', 'n', 'f', 'i', 'g', '_', 'b', '1', '.', 'F', 'n', 'J', 'A', 'A', 'S', 'O', 'p', 't', 'i', 'o', 'n', 'A', 'n', 's', 'w', 'e', 'r', 'S', 't', 'a', 'n', 'd', 's', 'I', 'n', 'T', 'o', 'k', 'e', 'n', 's']
def cutW : List Char := ['c', 'u', 't']
def restW : List (List Char) := [['a', 't'], ['e', 'x', 'a', 'm', 'p', 'l', 'e', '.', 'c', 'o', 'm', '/', 'o', 'u', 't', 'r', 'i', 'd', 'e', 'r', '/', 'o', 'u', 't', 'r', 'i', 'd', 'e', 'r', '/', 'z', 'z', 'l', 'a', 'w', 's', '_', 'i', 'n', 't', 'e', 'r', 'n', 'a', 'l', '_', 'c', 'o', 'n', 'n', 'e', 'c', 't', 'c', 'o', 'n', 'f', 'i', 'g', '_', 'b', '1', '.', 'F', 'n', 'J', 'a', 'a', 's', 'T', 'o', 'k', 'e', 'n', 's', 'R', 'e', 'a', 'd', 's', 'B', 'a', 'c', 'k', 'Q', 'u', 'o', 't', 'e', 'd', 'T', 'o', 'k', 'e', 'n', 's'], ['e', 'x', 'a', 'm', 'p', 'l', 'e', '.', 'c', 'o', 'm', '/', 'o', 'u', 't', 'r', 'i', 'd', 'e', 'r', '/', 'o', 'u', 't', 'r', 'i', 'd', 'e', 'r', '/', 'z', 'z', 'l', 'a', 'w', 's', '_', 'i', 'n', 't', 'e', 'r', 'n', 'a', 'l', '_', 'c', 'o', 'n', 'n', 'e', 'c', 't', 'c', 'o', 'n', 'f', 'i', 'g', '_', 'b', '1', '.', 'F', 'n', 'J', 'A', 'A', 'S', 'O', 'p', 't', 'i', 'o', 'n', 'F', 'i', 'n', 'd', 's', 'F', 'i', 'r', 's', 't', 'Q', 'u', 'o', 't', 'e', 'd', 'O', 'p', 't', 'i', 'o', 'n'], ['e', 'x', 'a', 'm', 'p', 'l', 'e', '.', 'c', 'o', 'm', '/', 'o', 'u', 't', 'r', 'i', 'd', 'e', 'r', '/', 'o', 'u', 't', 'r', 'i', 'd', 'e', 'r', '/', 'z', 'z', 'l', 'a', 'w', 's', '_', 'i', 'n', 't', 'e', 'r', 'n', 'a', 'l', '_', 'c', 'o', 'n', 'n', 'e', 'c', 't', 'c', 'o', 'n', 'f', 'i', 'g', '_', 'b', '1', '.', 'F', 'n', 'J', 'A', 'A', 'S', 'O', 'p', 't', 'i', 'o', 'n', 'A', 'n', 's', 'w', 'e', 'r', 'S', 't', 'a', 'n', 'd', 's', 'I', 'n', 'T', 'o', 'k', 'e', 'n', 's']]
theorem order_eq : Tryd.prog.initOrder = String.ofList signs := by kernel_rfl
theorem words_eq : behindMainWord (wordsSigns signs) = cutW :: restW := by kernel_rfl
theorem strip_eq : stripLifts liftWords (cutW :: restW) = ([], cutW :: restW) := by kernel_rfl
theorem lays_eq : Tryd.prog.laysLater = false := by kernel_rfl
theorem refl_eq : Tryd.prog.bearsReflect = false := by kernel_rfl
theorem door_eq : Tryd.prog.doorFits [] = true := by kernel_rfl
theorem enters_of {P : Program} {c : List Char} {rest : List (List Char)} (h : behindMainWord (wordsSigns P.initOrder.toList) = c :: rest) (hs : stripLifts liftWords (c :: rest) = ([], c :: rest)) (hc : c = "cut".toList) (hl : P.laysLater = false) (hr : P.bearsReflect = false) (hd : P.doorFits [] = true) : P.mayEnter = true := by
  unfold Program.mayEnter
  rw [h]
  simp only [hs, hl, hr, hd]
  subst hc
  simp
theorem enters : Tryd.prog.mayEnter = true := enters_of (by rw [order_eq, String.toList_ofList]; exact words_eq) strip_eq (by kernel_rfl) lays_eq refl_eq door_eq
theorem finals_of {P : Program} {rest : List (List Char)} (h : behindMainWord (wordsSigns P.initOrder.toList) = "cut".toList :: rest) (hs : stripLifts liftWords ("cut".toList :: rest) = ([], "cut".toList :: rest)) : P.liftsFinal = false := by
  unfold Program.liftsFinal Program.headLifts
  rw [h]
  simp only [hs]
  simp
theorem make_of {P : Program} {rest : List (List Char)} (h : behindMainWord (wordsSigns P.initOrder.toList) = "cut".toList :: rest) : P.make = some .cut := by
  unfold Program.make
  rw [h]
  simp
theorem cut_eq : cutW = "cut".toList := by kernel_rfl
theorem begins : behindMainWord (wordsSigns Tryd.prog.initOrder.toList) = "cut".toList :: restW := by rw [order_eq, String.toList_ofList, words_eq, cut_eq]
theorem finals_eq : Tryd.prog.liftsFinal = false := finals_of begins (by rw [← cut_eq]; exact strip_eq)
theorem make_eq : Tryd.prog.make = some .cut := make_of begins
theorem signs_eq : wordsSigns signs = ['h', 'a', 'r', 'n', 'e', 's', 's'] :: ['c', '7', '3', '8', 'e', '2', '1', 'b', '2', '4', '7', '1', '1', '7', '3', '6', '3', '1', 'e', '6', 'c', 'b', 'b', '6', 'c', '7', '8', '5', '1', 'f', '7', '8', 'a', 'c', '5', '4', '0', '6', '5', '2', '2', '9', 'd', '3', '7', '3', '6', '1', '9', 'e', 'a', '0', '6', '5', 'a', '4', 'c', '9', '3', '2', 'e', '2', '0', 'e'] :: cutW :: restW := by kernel_rfl
theorem main_of {P : Program} {h : List Char} {t : List (List Char)} (x : List Char) (e : wordsSigns P.initOrder.toList = h :: x :: t) (hh : h = "harness".toList) (hx : isSumSigns x = true) : P.mainIs = some (true, x) := by
  unfold Program.mainIs
  rw [e]
  subst hh
  simp [hx]
theorem harness_eq : Tryd.prog.mainIs = some (true, ("c738e21b2471173631e6cbb6c7851f78ac54065229d373619ea065a4c932e20e" : String).toList) :=
  (main_of _ (by rw [order_eq, String.toList_ofList]; exact signs_eq) (by kernel_rfl) (by kernel_rfl)).trans (by kernel_rfl)
theorem fact0 : (Rows.fnJAASOptionFindsFirstQuotedOptionRow.wf (OpenSpec.ofChange Rows.fnJAASOptionFindsFirstQuotedOptionSpec)) = true := by kernel_rfl
theorem fact1 : (laidOutB Tryd.prog) = true := by kernel_rfl
theorem fact2 : (mapsRowed Tryd.prog) = true := by kernel_rfl
theorem fact3 : (Tryd.f4.params.all (Tryd.prog.readableRec ·)) = true := by kernel_rfl
theorem fact4 : (namedTie Tryd.prog Rows.fnJAASOptionFindsFirstQuotedOptionRow.named Rows.fnJAASOptionFindsFirstQuotedOptionSpec.vars) = true := by kernel_rfl
theorem fact5 : ((Rows.fnJAASOptionFindsFirstQuotedOptionRow.stops == [])) = true := by kernel_rfl
theorem fact6 : ((Tryd.prog.stops == [])) = true := by kernel_rfl
theorem fact7 : ((Rows.fnJAASOptionFindsFirstQuotedOptionRow.knobs == [])) = true := by kernel_rfl
theorem fact8 : ((Tryd.prog.stopKnobs == [])) = true := by kernel_rfl
theorem fact9 : ((Rows.fnJAASOptionFindsFirstQuotedOptionRow.inPlace == Tryd.prog.inPlace 4)) = true := by kernel_rfl
theorem fact10 : ((Rows.fnJAASOptionFindsFirstQuotedOptionRow.unfollowed == Tryd.prog.unfollowed 4)) = true := by kernel_rfl
theorem fact11 : ((Rows.fnJAASOptionFindsFirstQuotedOptionRow.recurses == Tryd.prog.recurses 4)) = true := by kernel_rfl
theorem fact12 : ((Rows.fnJAASOptionFindsFirstQuotedOptionRow.named == Tryd.prog.varsNamed 4)) = true := by kernel_rfl
theorem fact13 : ((Rows.fnJAASOptionFindsFirstQuotedOptionRow.maps == (Tryd.f4.params.toList ++ Rows.fnJAASOptionFindsFirstQuotedOptionSpec.plain.varTypes Tryd.prog).any (Tryd.prog.mapsRec ·))) = true := by kernel_rfl
theorem fact14 : ((Rows.fnJAASOptionFindsFirstQuotedOptionRow.ifaces == (Tryd.f4.params.toList ++ Rows.fnJAASOptionFindsFirstQuotedOptionSpec.plain.varTypes Tryd.prog).any (Tryd.prog.ifacesRec ·))) = true := by kernel_rfl
theorem fact15 : ((Rows.fnJAASOptionFindsFirstQuotedOptionRow.mapsOut == Tryd.prog.mapsAmong Tryd.f4.resultTypes.toList)) = true := by kernel_rfl
theorem fact16 : ((Rows.fnJAASOptionFindsFirstQuotedOptionRow.loops == (Tryd.f4.params.toList ++ Rows.fnJAASOptionFindsFirstQuotedOptionSpec.plain.varTypes Tryd.prog).any (Tryd.prog.loopsFrom ·))) = true := by kernel_rfl
theorem fact17 : ((Rows.fnJAASOptionFindsFirstQuotedOptionRow.wideKeys == (Tryd.f4.params.toList ++ Rows.fnJAASOptionFindsFirstQuotedOptionSpec.plain.varTypes Tryd.prog ++ Tryd.f4.resultTypes.toList).any (Tryd.prog.wideKeysFrom ·))) = true := by kernel_rfl
theorem fact18 : (Rows.fnJAASOptionFindsFirstQuotedOptionSpec.vars.all (Tryd.prog.varReadable ·)) = true := by kernel_rfl
theorem fact19 : (Tryd.f4.resultTypes.all (fun t => Tryd.prog.readableRec t && decide (t < Tryd.prog.types.size))) = true := by kernel_rfl
theorem fact20 : ((Rows.fnJAASOptionFindsFirstQuotedOptionRow.ifacesOut == Tryd.f4.resultTypes.toList.any (Tryd.prog.ifacesRec ·))) = true := by kernel_rfl
theorem fact21 : ((Rows.fnJAASOptionFindsFirstQuotedOptionRow.loopsOut == Tryd.f4.resultTypes.toList.any (Tryd.prog.loopsFrom ·))) = true := by kernel_rfl
theorem fact22 : ((Rows.fnJAASOptionFindsFirstQuotedOptionRow.plainKeys == Tryd.prog.plainKeys)) = true := by kernel_rfl
theorem fact23 : (Rows.fnJAASOptionFindsFirstQuotedOptionRow.shortTexts.isNone) = true := by kernel_rfl
theorem fact24 : (Tryd.prog.stopsHeard) = true := by kernel_rfl
theorem fact25 : (Tryd.prog.mayEnter) = true := enters
theorem fact26 : ((Rows.fnJAASOptionFindsFirstQuotedOptionRow.lifted == Tryd.prog.liftsFinal)) = true := by rw [finals_eq]; rfl
theorem fact27 : ((Tryd.prog.make == some Rows.fnJAASOptionFindsFirstQuotedOptionRow.make)) = true := by rw [make_eq]; rfl
theorem fact28 : ((Rows.fnJAASOptionFindsFirstQuotedOptionRow.kinds == (if Rows.fnJAASOptionFindsFirstQuotedOptionRow.domain.isEmpty then [] else Tryd.f4.params.toList.map fun t => match Tryd.prog.underlying t with | some (.int k) => some k | _ => none))) = true := by kernel_rfl
theorem fact29 : ((Rows.fnJAASOptionFindsFirstQuotedOptionRow.pinned == Rows.fnJAASOptionFindsFirstQuotedOptionRow.pinnedBy)) = true := by kernel_rfl
theorem fact30 : ((Rows.fnJAASOptionFindsFirstQuotedOptionRow.veiled == (Tryd.f4.params.toList ++ Rows.fnJAASOptionFindsFirstQuotedOptionSpec.plain.varTypes Tryd.prog ++ Tryd.f4.resultTypes.toList).any (Tryd.prog.veiledRec ·))) = true := by kernel_rfl
theorem fact31 : (Rows.fnJAASOptionFindsFirstQuotedOptionRow.veiledFits Tryd.prog Tryd.f4.params.toList (Tryd.f4.params.toList ++ Rows.fnJAASOptionFindsFirstQuotedOptionSpec.plain.varTypes Tryd.prog ++ Tryd.f4.resultTypes.toList)) = true := by kernel_rfl
set_option maxRecDepth 100000 in
theorem facts : joinedFacts Tryd.prog 4 Tryd.f4 Rows.fnJAASOptionFindsFirstQuotedOptionSpec Rows.fnJAASOptionFindsFirstQuotedOptionRow = true :=
  Bool.and_eq_true_iff.2 ⟨Bool.and_eq_true_iff.2 ⟨Bool.and_eq_true_iff.2 ⟨Bool.and_eq_true_iff.2 ⟨Bool.and_eq_true_iff.2 ⟨Bool.and_eq_true_iff.2 ⟨Bool.and_eq_true_iff.2 ⟨Bool.and_eq_true_iff.2 ⟨Bool.and_eq_true_iff.2 ⟨Bool.and_eq_true_iff.2 ⟨Bool.and_eq_true_iff.2 ⟨Bool.and_eq_true_iff.2 ⟨Bool.and_eq_true_iff.2 ⟨Bool.and_eq_true_iff.2 ⟨Bool.and_eq_true_iff.2 ⟨Bool.and_eq_true_iff.2 ⟨Bool.and_eq_true_iff.2 ⟨Bool.and_eq_true_iff.2 ⟨Bool.and_eq_true_iff.2 ⟨Bool.and_eq_true_iff.2 ⟨Bool.and_eq_true_iff.2 ⟨Bool.and_eq_true_iff.2 ⟨Bool.and_eq_true_iff.2 ⟨Bool.and_eq_true_iff.2 ⟨Bool.and_eq_true_iff.2 ⟨Bool.and_eq_true_iff.2 ⟨Bool.and_eq_true_iff.2 ⟨Bool.and_eq_true_iff.2 ⟨Bool.and_eq_true_iff.2 ⟨Bool.and_eq_true_iff.2 ⟨Bool.and_eq_true_iff.2 ⟨fact0, fact1⟩, fact2⟩, fact3⟩, fact4⟩, fact5⟩, fact6⟩, fact7⟩, fact8⟩, fact9⟩, fact10⟩, fact11⟩, fact12⟩, fact13⟩, fact14⟩, fact15⟩, fact16⟩, fact17⟩, fact18⟩, fact19⟩, fact20⟩, fact21⟩, fact22⟩, fact23⟩, fact24⟩, fact25⟩, fact26⟩, fact27⟩, fact28⟩, fact29⟩, fact30⟩, fact31⟩
end Go.Proofs.Qxb6606142aDoor
