/-
  DERIVED. GIVEN WITH THE SEED: THE CARDS: each row of Qxb6609045aDoorRows.lean that lists a variable, with what it lists TIED to the program's text (the seventh form; the later family's looks); each row that meets fmt, with fmt's text TOLD by the authors' own Lean function (tested against real Go, not proved from fmt's source: count such statements apart). THE CARD IS WHAT COUNTS. Prove the row's statement (the work); the ties are given (Qxb6609045aDoorTie.lean); close each card by the builder's one call (the guide's Derived/Test/ToyasCard.lean, 'card_holds'). Laid BY PROGRAM, IN A SANDBOX (cutbox-door.mjs). By AI agents, Wed Nov 11 2026. No macro, syntax, notation, axiom, sorry.
-/
import Derived.Test.Qxb6609045aDoorRows
import GoSem.ClaimSeven
namespace Go.Proofs.Qxb6609045aDoor
namespace Rows

/-- THE TIED CARD OF 'zzlaws_annotation_b1.FnListCutAtAnyComma'. -/
def fnListCutAtAnyCommaCard : Claim7 := { stood := { row := fnListCutAtAnyCommaRow, standIns := [], harness := (true, "edc8a795d874dba24ad6dddd5142e15d1c351e7a65031d13886fc589e3fe7028"), looks := false }, kinds := [], alts := [], laidByText := true, laidKinds := [.data, .listed, .data, .pinned], laidTests := true, laidLooks := .later }
def FnListCutAtAnyCommaCardSaid : Prop := Claim7.holds Tryd.pinned (.plain (OpenSpec.ofChange fnListCutAtAnyCommaSpec)) fnListCutAtAnyCommaCard

/-- THE TIED CARD OF 'zzlaws_annotation_b1.FnListAgreesWithLines'. -/
def fnListAgreesWithLinesCard : Claim7 := { stood := { row := fnListAgreesWithLinesRow, standIns := [], harness := (true, "edc8a795d874dba24ad6dddd5142e15d1c351e7a65031d13886fc589e3fe7028"), looks := false }, kinds := [], alts := [], laidByText := true, laidKinds := [.data, .listed, .data, .pinned], laidTests := true, laidLooks := .later }
def FnListAgreesWithLinesCardSaid : Prop := Claim7.holds Tryd.pinned (.plain (OpenSpec.ofChange fnListAgreesWithLinesSpec)) fnListAgreesWithLinesCard

/-- THE TIED CARD OF 'zzlaws_annotation_b1.FnLinesCutAtAnyNewline'. -/
def fnLinesCutAtAnyNewlineCard : Claim7 := { stood := { row := fnLinesCutAtAnyNewlineRow, standIns := [], harness := (true, "edc8a795d874dba24ad6dddd5142e15d1c351e7a65031d13886fc589e3fe7028"), looks := false }, kinds := [], alts := [], laidByText := true, laidKinds := [.data, .listed, .data, .pinned], laidTests := true, laidLooks := .later }
def FnLinesCutAtAnyNewlineCardSaid : Prop := Claim7.holds Tryd.pinned (.plain (OpenSpec.ofChange fnLinesCutAtAnyNewlineSpec)) fnLinesCutAtAnyNewlineCard

/-- THE TIED CARD OF 'zzlaws_annotation_b1.FnLinesCRLFReadsAsLF'. -/
def fnLinesCRLFReadsAsLFCard : Claim7 := { stood := { row := fnLinesCRLFReadsAsLFRow, standIns := [], harness := (true, "edc8a795d874dba24ad6dddd5142e15d1c351e7a65031d13886fc589e3fe7028"), looks := false }, kinds := [], alts := [], laidByText := true, laidKinds := [.data, .listed, .data, .pinned], laidTests := true, laidLooks := .later }
def FnLinesCRLFReadsAsLFCardSaid : Prop := Claim7.holds Tryd.pinned (.plain (OpenSpec.ofChange fnLinesCRLFReadsAsLFSpec)) fnLinesCRLFReadsAsLFCard

/-- THE TIED CARD OF 'zzlaws_annotation_b1.FnSeparatedLeadingSepAddsNothing'. -/
def fnSeparatedLeadingSepAddsNothingCard : Claim7 := { stood := { row := fnSeparatedLeadingSepAddsNothingRow, standIns := [], harness := (true, "edc8a795d874dba24ad6dddd5142e15d1c351e7a65031d13886fc589e3fe7028"), looks := false }, kinds := [], alts := [], laidByText := true, laidKinds := [.data, .listed, .data, .pinned], laidTests := true, laidLooks := .later }
def FnSeparatedLeadingSepAddsNothingCardSaid : Prop := Claim7.holds Tryd.pinned (.plain (OpenSpec.ofChange fnSeparatedLeadingSepAddsNothingSpec)) fnSeparatedLeadingSepAddsNothingCard

/-- THE TIED CARD OF 'zzlaws_annotation_b1.FnSeparatedItemsReadAsThemselves'. -/
def fnSeparatedItemsReadAsThemselvesCard : Claim7 := { stood := { row := fnSeparatedItemsReadAsThemselvesRow, standIns := [], harness := (true, "edc8a795d874dba24ad6dddd5142e15d1c351e7a65031d13886fc589e3fe7028"), looks := false }, kinds := [], alts := [], laidByText := true, laidKinds := [.data, .listed, .data, .pinned], laidTests := true, laidLooks := .later }
def FnSeparatedItemsReadAsThemselvesCardSaid : Prop := Claim7.holds Tryd.pinned (.plain (OpenSpec.ofChange fnSeparatedItemsReadAsThemselvesSpec)) fnSeparatedItemsReadAsThemselvesCard
end Rows
end Go.Proofs.Qxb6609045aDoor
