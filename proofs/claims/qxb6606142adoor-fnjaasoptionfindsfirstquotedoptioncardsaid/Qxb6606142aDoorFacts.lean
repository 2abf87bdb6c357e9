import Derived.Test.Qxb6606142aDoorCards
import Derived.JoinedOf
import Derived.ProofKit
namespace Go.Proofs.Qxb6606142aDoor
open Go.ChangeShapes Go.WideShapes Go.ChangeAt Go.RowKit
/-- The translation's first words. -/
def signs : List Char := ([104, 97, 114, 110, 101, 115, 115, 32, 99, 55, 51, 56, 101, 50, 49, 98, 50, 52, 55, 49, 49, 55, 51, 54, 51, 49, 101, 54, 99, 98, 98, 54, 99, 55, 56, 53, 49, 102, 55, 56, 97, 99, 53, 52, 48, 54, 53, 50, 50, 57, 100, 51, 55, 51, 54, 49, 57, 101, 97, 48, 54, 53, 97, 52, 99, 57, 51, 50, 101, 50, 48, 101, 32, 99, 117, 116, 32, 97, 116, 32, 101, 120, 97, 109, 112, 108, 101, 46, 99, 111, 109, 47, 111, 117, 116, 114, 105, 100, 101, 114, 47, 111, 117, 116, 114, 105, 100, 101, 114, 47, 122, 122, 108, 97, 119, 115, 95, 105, 110, 116, 101, 114, 110, 97, 108, 95, 99, 111, 110, 110, 101, 99, 116, 99, 111, 110, 102, 105, 103, 95, 98, 49, 46, 70, 110, 74, 97, 97, 115, 84, 111, 107, 101, 110, 115, 82, 101, 97, 100, 115, 66, 97, 99, 107, 81, 117, 111, 116, 101, 100, 84, 111, 107, 101, 110, 115, 32, 101, 120, 97, 109, 112, 108, 101, 46, 99, 111, 109, 47, 111, 117, 116, 114, 105, 100, 101, 114, 47, 111, 117, 116, 114, 105, 100, 101, 114, 47, 122, 122, 108, 97, 119, 115, 95, 105, 110, 116, 101, 114, 110, 97, 108, 95, 99, 111, 110, 110, 101, 99, 116, 99, 111, 110, 102, 105, 103, 95, 98, 49, 46, 70, 110, 74, 65, 65, 83, 79, 112, 116, 105, 111, 110, 70, 105, 110, 100, 115, 70, 105, 114, 115, 116, 81, 117, 111, 116, 101, 100, 79, 112, 116, 105, 111, 110, 32, 101, 120, 97, 109, 112, 108, 101, 46, 99, 111, 109, 47, 111, 117, 116, 114, 105, 100, 101, 114, 47, 111, 117, 116, 114, 105, 100, 101, 114, 47, 122, 122, 108, 97, 119, 115, 95, 105, 110, 116, 101, 114, 110, 97, 108, 95, 99, 111, 110, 110, 101, 99, 116, 99, 111, 110, 102, 105, 103, 95, 98, 49, 46, 70, 110, 74, 65, 65, 83, 79, 112, 116, 105, 111, 110, 65, 110, 115, 119, 101, 114, 83, 116, 97, 110, 100, 115, 73, 110, 84, 111, 107, 101, 110, 115].map Char.ofNat)
def cutW : List Char := ([99, 117, 116].map Char.ofNat)
def restW : List (List Char) := [([97, 116].map Char.ofNat), ([101, 120, 97, 109, 112, 108, 101, 46, 99, 111, 109, 47, 111, 117, 116, 114, 105, 100, 101, 114, 47, 111, 117, 116, 114, 105, 100, 101, 114, 47, 122, 122, 108, 97, 119, 115, 95, 105, 110, 116, 101, 114, 110, 97, 108, 95, 99, 111, 110, 110, 101, 99, 116, 99, 111, 110, 102, 105, 103, 95, 98, 49, 46, 70, 110, 74, 97, 97, 115, 84, 111, 107, 101, 110, 115, 82, 101, 97, 100, 115, 66, 97, 99, 107, 81, 117, 111, 116, 101, 100, 84, 111, 107, 101, 110, 115].map Char.ofNat), ([101, 120, 97, 109, 112, 108, 101, 46, 99, 111, 109, 47, 111, 117, 116, 114, 105, 100, 101, 114, 47, 111, 117, 116, 114, 105, 100, 101, 114, 47, 122, 122, 108, 97, 119, 115, 95, 105, 110, 116, 101, 114, 110, 97, 108, 95, 99, 111, 110, 110, 101, 99, 116, 99, 111, 110, 102, 105, 103, 95, 98, 49, 46, 70, 110, 74, 65, 65, 83, 79, 112, 116, 105, 111, 110, 70, 105, 110, 100, 115, 70, 105, 114, 115, 116, 81, 117, 111, 116, 101, 100, 79, 112, 116, 105, 111, 110].map Char.ofNat), ([101, 120, 97, 109, 112, 108, 101, 46, 99, 111, 109, 47, 111, 117, 116, 114, 105, 100, 101, 114, 47, 111, 117, 116, 114, 105, 100, 101, 114, 47, 122, 122, 108, 97, 119, 115, 95, 105, 110, 116, 101, 114, 110, 97, 108, 95, 99, 111, 110, 110, 101, 99, 116, 99, 111, 110, 102, 105, 103, 95, 98, 49, 46, 70, 110, 74, 65, 65, 83, 79, 112, 116, 105, 111, 110, 65, 110, 115, 119, 101, 114, 83, 116, 97, 110, 100, 115, 73, 110, 84, 111, 107, 101, 110, 115].map Char.ofNat)]
theorem order_eq : Tryd.prog.initOrder = String.ofList signs := by kernel_rfl
theorem words_eq : behindMainWord (wordsSigns signs) = cutW :: restW := by kernel_rfl
theorem strip_eq : stripLifts liftWords (cutW :: restW) = ([], cutW :: restW) := by kernel_rfl
theorem lays_eq : Tryd.prog.laysLater = false := by kernel_rfl
theorem refl_eq : Tryd.prog.bearsReflect = false := by kernel_rfl
theorem door_eq : Tryd.prog.doorFits [] = true := by kernel_rfl
theorem enters_of {P : Program} {c : List Char} {rest : List (List Char)} (h : behindMainWord (wordsSigns P.initOrder.toList) = c :: rest) (hs : stripLifts liftWords (c :: rest) = ([], c :: rest)) (hc : c = "cut".toList) (hl : P.laysLater = false) (hr : P.bearsReflect = false) (hd : P.doorFits [] = true) : P.mayEnter = true := by
  unfold Program.mayEnter
  rw [h]
  simp only [hs, hl, hr, hd]
  subst hc
  simp
theorem enters : Tryd.prog.mayEnter = true := enters_of (by rw [order_eq, String.toList_ofList]; exact words_eq) strip_eq (by kernel_rfl) lays_eq refl_eq door_eq
theorem finals_of {P : Program} {rest : List (List Char)} (h : behindMainWord (wordsSigns P.initOrder.toList) = "cut".toList :: rest) (hs : stripLifts liftWords ("cut".toList :: rest) = ([], "cut".toList :: rest)) : P.liftsFinal = false := by
  unfold Program.liftsFinal Program.headLifts
  rw [h]
  simp only [hs]
  simp
theorem make_of {P : Program} {rest : List (List Char)} (h : behindMainWord (wordsSigns P.initOrder.toList) = "cut".toList :: rest) : P.make = some .cut := by
  unfold Program.make
  rw [h]
  simp
theorem cut_eq : cutW = "cut".toList := by kernel_rfl
theorem begins : behindMainWord (wordsSigns Tryd.prog.initOrder.toList) = "cut".toList :: restW := by rw [order_eq, String.toList_ofList, words_eq, cut_eq]
theorem finals_eq : Tryd.prog.liftsFinal = false := finals_of begins (by rw [← cut_eq]; exact strip_eq)
theorem make_eq : Tryd.prog.make = some .cut := make_of begins
theorem signs_eq : wordsSigns signs = ([104, 97, 114, 110, 101, 115, 115].map Char.ofNat) :: ([99, 55, 51, 56, 101, 50, 49, 98, 50, 52, 55, 49, 49, 55, 51, 54, 51, 49, 101, 54, 99, 98, 98, 54, 99, 55, 56, 53, 49, 102, 55, 56, 97, 99, 53, 52, 48, 54, 53, 50, 50, 57, 100, 51, 55, 51, 54, 49, 57, 101, 97, 48, 54, 53, 97, 52, 99, 57, 51, 50, 101, 50, 48, 101].map Char.ofNat) :: cutW :: restW := by kernel_rfl
theorem main_of {P : Program} {h : List Char} {t : List (List Char)} (x : List Char) (e : wordsSigns P.initOrder.toList = h :: x :: t) (hh : h = "harness".toList) (hx : isSumSigns x = true) : P.mainIs = some (true, x) := by
  unfold Program.mainIs
  rw [e]
  subst hh
  simp [hx]
theorem harness_eq : Tryd.prog.mainIs = some (true, ("c738e21b2471173631e6cbb6c7851f78ac54065229d373619ea065a4c932e20e" : String).toList) :=
  (main_of _ (by rw [order_eq, String.toList_ofList]; exact signs_eq) (by kernel_rfl) (by kernel_rfl)).trans (by kernel_rfl)
theorem fact0 : (Rows.fnJAASOptionFindsFirstQuotedOptionRow.wf (OpenSpec.ofChange Rows.fnJAASOptionFindsFirstQuotedOptionSpec)) = true := by kernel_rfl
theorem fact1 : (laidOutB Tryd.prog) = true := by kernel_rfl
theorem fact2 : (mapsRowed Tryd.prog) = true := by kernel_rfl
theorem fact3 : (Tryd.f4.params.all (Tryd.prog.readableRec ·)) = true := by kernel_rfl
theorem fact4 : (namedTie Tryd.prog Rows.fnJAASOptionFindsFirstQuotedOptionRow.named Rows.fnJAASOptionFindsFirstQuotedOptionSpec.vars) = true := by kernel_rfl
theorem fact5 : ((Rows.fnJAASOptionFindsFirstQuotedOptionRow.stops == [])) = true := by kernel_rfl
theorem fact6 : ((Tryd.prog.stops == [])) = true := by kernel_rfl
theorem fact7 : ((Rows.fnJAASOptionFindsFirstQuotedOptionRow.knobs == [])) = true := by kernel_rfl
theorem fact8 : ((Tryd.prog.stopKnobs == [])) = true := by kernel_rfl
theorem fact9 : ((Rows.fnJAASOptionFindsFirstQuotedOptionRow.inPlace == Tryd.prog.inPlace 4)) = true := by kernel_rfl
theorem fact10 : ((Rows.fnJAASOptionFindsFirstQuotedOptionRow.unfollowed == Tryd.prog.unfollowed 4)) = true := by kernel_rfl
theorem fact11 : ((Rows.fnJAASOptionFindsFirstQuotedOptionRow.recurses == Tryd.prog.recurses 4)) = true := by kernel_rfl
theorem fact12 : ((Rows.fnJAASOptionFindsFirstQuotedOptionRow.named == Tryd.prog.varsNamed 4)) = true := by kernel_rfl
theorem fact13 : ((Rows.fnJAASOptionFindsFirstQuotedOptionRow.maps == (Tryd.f4.params.toList ++ Rows.fnJAASOptionFindsFirstQuotedOptionSpec.plain.varTypes Tryd.prog).any (Tryd.prog.mapsRec ·))) = true := by kernel_rfl
theorem fact14 : ((Rows.fnJAASOptionFindsFirstQuotedOptionRow.ifaces == (Tryd.f4.params.toList ++ Rows.fnJAASOptionFindsFirstQuotedOptionSpec.plain.varTypes Tryd.prog).any (Tryd.prog.ifacesRec ·))) = true := by kernel_rfl
theorem fact15 : ((Rows.fnJAASOptionFindsFirstQuotedOptionRow.mapsOut == Tryd.prog.mapsAmong Tryd.f4.resultTypes.toList)) = true := by kernel_rfl
theorem fact16 : ((Rows.fnJAASOptionFindsFirstQuotedOptionRow.loops == (Tryd.f4.params.toList ++ Rows.fnJAASOptionFindsFirstQuotedOptionSpec.plain.varTypes Tryd.prog).any (Tryd.prog.loopsFrom ·))) = true := by kernel_rfl
theorem fact17 : ((Rows.fnJAASOptionFindsFirstQuotedOptionRow.wideKeys == (Tryd.f4.params.toList ++ Rows.fnJAASOptionFindsFirstQuotedOptionSpec.plain.varTypes Tryd.prog ++ Tryd.f4.resultTypes.toList).any (Tryd.prog.wideKeysFrom ·))) = true := by kernel_rfl
theorem fact18 : (Rows.fnJAASOptionFindsFirstQuotedOptionSpec.vars.all (Tryd.prog.varReadable ·)) = true := by kernel_rfl
theorem fact19 : (Tryd.f4.resultTypes.all (fun t => Tryd.prog.readableRec t && decide (t < Tryd.prog.types.size))) = true := by kernel_rfl
theorem fact20 : ((Rows.fnJAASOptionFindsFirstQuotedOptionRow.ifacesOut == Tryd.f4.resultTypes.toList.any (Tryd.prog.ifacesRec ·))) = true := by kernel_rfl
theorem fact21 : ((Rows.fnJAASOptionFindsFirstQuotedOptionRow.loopsOut == Tryd.f4.resultTypes.toList.any (Tryd.prog.loopsFrom ·))) = true := by kernel_rfl
theorem fact22 : ((Rows.fnJAASOptionFindsFirstQuotedOptionRow.plainKeys == Tryd.prog.plainKeys)) = true := by kernel_rfl
theorem fact23 : (Rows.fnJAASOptionFindsFirstQuotedOptionRow.shortTexts.isNone) = true := by kernel_rfl
theorem fact24 : (Tryd.prog.stopsHeard) = true := by kernel_rfl
theorem fact25 : (Tryd.prog.mayEnter) = true := enters
theorem fact26 : ((Rows.fnJAASOptionFindsFirstQuotedOptionRow.lifted == Tryd.prog.liftsFinal)) = true := by rw [finals_eq]; rfl
theorem fact27 : ((Tryd.prog.make == some Rows.fnJAASOptionFindsFirstQuotedOptionRow.make)) = true := by rw [make_eq]; rfl
theorem fact28 : ((Rows.fnJAASOptionFindsFirstQuotedOptionRow.kinds == (if Rows.fnJAASOptionFindsFirstQuotedOptionRow.domain.isEmpty then [] else Tryd.f4.params.toList.map fun t => match Tryd.prog.underlying t with | some (.int k) => some k | _ => none))) = true := by kernel_rfl
theorem fact29 : ((Rows.fnJAASOptionFindsFirstQuotedOptionRow.pinned == Rows.fnJAASOptionFindsFirstQuotedOptionRow.pinnedBy)) = true := by kernel_rfl
theorem fact30 : ((Rows.fnJAASOptionFindsFirstQuotedOptionRow.veiled == (Tryd.f4.params.toList ++ Rows.fnJAASOptionFindsFirstQuotedOptionSpec.plain.varTypes Tryd.prog ++ Tryd.f4.resultTypes.toList).any (Tryd.prog.veiledRec ·))) = true := by kernel_rfl
theorem fact31 : (Rows.fnJAASOptionFindsFirstQuotedOptionRow.veiledFits Tryd.prog Tryd.f4.params.toList (Tryd.f4.params.toList ++ Rows.fnJAASOptionFindsFirstQuotedOptionSpec.plain.varTypes Tryd.prog ++ Tryd.f4.resultTypes.toList)) = true := by kernel_rfl
set_option maxRecDepth 100000 in
theorem facts : joinedFacts Tryd.prog 4 Tryd.f4 Rows.fnJAASOptionFindsFirstQuotedOptionSpec Rows.fnJAASOptionFindsFirstQuotedOptionRow = true :=
  Bool.and_eq_true_iff.2 ⟨Bool.and_eq_true_iff.2 ⟨Bool.and_eq_true_iff.2 ⟨Bool.and_eq_true_iff.2 ⟨Bool.and_eq_true_iff.2 ⟨Bool.and_eq_true_iff.2 ⟨Bool.and_eq_true_iff.2 ⟨Bool.and_eq_true_iff.2 ⟨Bool.and_eq_true_iff.2 ⟨Bool.and_eq_true_iff.2 ⟨Bool.and_eq_true_iff.2 ⟨Bool.and_eq_true_iff.2 ⟨Bool.and_eq_true_iff.2 ⟨Bool.and_eq_true_iff.2 ⟨Bool.and_eq_true_iff.2 ⟨Bool.and_eq_true_iff.2 ⟨Bool.and_eq_true_iff.2 ⟨Bool.and_eq_true_iff.2 ⟨Bool.and_eq_true_iff.2 ⟨Bool.and_eq_true_iff.2 ⟨Bool.and_eq_true_iff.2 ⟨Bool.and_eq_true_iff.2 ⟨Bool.and_eq_true_iff.2 ⟨Bool.and_eq_true_iff.2 ⟨Bool.and_eq_true_iff.2 ⟨Bool.and_eq_true_iff.2 ⟨Bool.and_eq_true_iff.2 ⟨Bool.and_eq_true_iff.2 ⟨Bool.and_eq_true_iff.2 ⟨Bool.and_eq_true_iff.2 ⟨Bool.and_eq_true_iff.2 ⟨fact0, fact1⟩, fact2⟩, fact3⟩, fact4⟩, fact5⟩, fact6⟩, fact7⟩, fact8⟩, fact9⟩, fact10⟩, fact11⟩, fact12⟩, fact13⟩, fact14⟩, fact15⟩, fact16⟩, fact17⟩, fact18⟩, fact19⟩, fact20⟩, fact21⟩, fact22⟩, fact23⟩, fact24⟩, fact25⟩, fact26⟩, fact27⟩, fact28⟩, fact29⟩, fact30⟩, fact31⟩
end Go.Proofs.Qxb6606142aDoor
