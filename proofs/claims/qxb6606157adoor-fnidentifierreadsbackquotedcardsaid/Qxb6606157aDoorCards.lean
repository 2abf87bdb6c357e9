/-
  DERIVED. GIVEN WITH THE SEED: THE CARDS: each row of Qxb6606157aDoorRows.lean that lists a variable, with what it lists TIED to the program's text (the seventh form; the later family's looks); each row that meets fmt, with fmt's text TOLD by the authors' own Lean function (tested against real Go, not proved from fmt's source: count such statements apart). THE CARD IS WHAT COUNTS. Prove the row's statement (the work); the ties are given (Qxb6606157aDoorTie.lean); close each card by the builder's one call (the guide's Derived/Test/ToyasCard.lean, 'card_holds'). Laid BY PROGRAM, IN A SANDBOX (cutbox-door.mjs). By AI agents, Wed Nov 11 2026. No macro, syntax, notation, axiom, sorry.
-/
import Derived.Test.Qxb6606157aDoorRows
import GoSem.ClaimSeven
namespace Go.Proofs.Qxb6606157aDoor
namespace Rows

/-- THE TIED CARD OF 'zzlaws_report_b1.FnTransactionLinePartsAnswerIsNormal'. -/
def fnTransactionLinePartsAnswerIsNormalCard : Claim7 := { stood := { row := fnTransactionLinePartsAnswerIsNormalRow, standIns := [], harness := (true, "208a2b5f718da11d09678065f6aeba061cd36cdbaf7d8298ae216f28b0799578"), looks := true }, kinds := [], alts := [], laidByText := true, laidKinds := [.data, .data, .data, .data, .sentinel, .sentinel, .listed, .data, .pinned], laidTests := true, laidLooks := .later }
def FnTransactionLinePartsAnswerIsNormalCardSaid : Prop := Claim7.holds Tryd.pinned (.plain (OpenSpec.ofChange fnTransactionLinePartsAnswerIsNormalSpec)) fnTransactionLinePartsAnswerIsNormalCard

/-- THE TIED CARD OF 'zzlaws_report_b1.FnTransactionLinePartsReadsServerLine'. -/
def fnTransactionLinePartsReadsServerLineCard : Claim7 := { stood := { row := fnTransactionLinePartsReadsServerLineRow, standIns := [], harness := (true, "208a2b5f718da11d09678065f6aeba061cd36cdbaf7d8298ae216f28b0799578"), looks := true }, kinds := [], alts := [], laidByText := true, laidKinds := [.data, .data, .data, .data, .sentinel, .sentinel, .listed, .data, .pinned], laidTests := true, laidLooks := .later }
def FnTransactionLinePartsReadsServerLineCardSaid : Prop := Claim7.holds Tryd.pinned (.plain (OpenSpec.ofChange fnTransactionLinePartsReadsServerLineSpec)) fnTransactionLinePartsReadsServerLineCard

/-- THE TIED CARD OF 'zzlaws_report_b1.FnTransactionLinePartsIgnoresCommaTail'. -/
def fnTransactionLinePartsIgnoresCommaTailCard : Claim7 := { stood := { row := fnTransactionLinePartsIgnoresCommaTailRow, standIns := [], harness := (true, "208a2b5f718da11d09678065f6aeba061cd36cdbaf7d8298ae216f28b0799578"), looks := true }, kinds := [], alts := [], laidByText := true, laidKinds := [.data, .data, .data, .data, .sentinel, .sentinel, .listed, .data, .pinned], laidTests := true, laidLooks := .later }
def FnTransactionLinePartsIgnoresCommaTailCardSaid : Prop := Claim7.holds Tryd.pinned (.plain (OpenSpec.ofChange fnTransactionLinePartsIgnoresCommaTailSpec)) fnTransactionLinePartsIgnoresCommaTailCard

/-- THE TIED CARD OF 'zzlaws_report_b1.FnIdentifierReadsBackQuoted'. -/
def fnIdentifierReadsBackQuotedCard : Claim7 := { stood := { row := fnIdentifierReadsBackQuotedRow, standIns := [], harness := (true, "208a2b5f718da11d09678065f6aeba061cd36cdbaf7d8298ae216f28b0799578"), looks := true }, kinds := [], alts := [], laidByText := true, laidKinds := [.data, .pinned], laidTests := true, laidLooks := .later }
def FnIdentifierReadsBackQuotedCardSaid : Prop := Claim7.holds Tryd.pinned (.plain (OpenSpec.ofChange fnIdentifierReadsBackQuotedSpec)) fnIdentifierReadsBackQuotedCard
end Rows
end Go.Proofs.Qxb6606157aDoor
