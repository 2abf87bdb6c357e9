/-
  DERIVED. GIVEN WITH THE SEED: THE CARDS: each row of Qxb6606017aFmtRows.lean that lists a variable, with what it lists TIED to the program's text (the seventh form; the later family's looks); each row that meets fmt, with fmt's text TOLD by the authors' own Lean function (tested against real Go, not proved from fmt's source: count such statements apart). THE CARD IS WHAT COUNTS. Prove the row's statement (the work); the ties are given (Qxb6606017aFmtTie.lean); close each card by the builder's one call (the guide's Derived/Test/ToyasCard.lean, 'card_holds'). Laid BY PROGRAM, IN A SANDBOX (cutbox-door.mjs). By AI agents, Wed Nov 11 2026. No macro, syntax, notation, axiom, sorry.
-/
import Derived.Test.Qxb6606017aFmtRows
import GoSem.ClaimSeven
namespace Go.Proofs.Qxb6606017aFmt
namespace Rows

/-- THE TOLD AND TIED CARD OF 'zzlaws_internal_xmldoc_b1.FnNameReaderTakesExactlyTheNameChars'. -/
def fnNameReaderTakesExactlyTheNameCharsCard : Claim7 := { stood := { row := fnNameReaderTakesExactlyTheNameCharsRow, standIns := [], harness := (true, "ff6058f2b11d3ad4cd4f8b47b3b8630623d21bf93915ad495de02b9eee5fb6ff"), looks := true }, told := true, laidByText := true, laidKinds := [.data, .pinned], laidTests := true, laidLooks := .later, goes := false }
def FnNameReaderTakesExactlyTheNameCharsToldSaid : Prop := Claim7.holds Tryf.pinned (.plain (OpenSpec.ofChange fnNameReaderTakesExactlyTheNameCharsSpec)) fnNameReaderTakesExactlyTheNameCharsCard
/-- ITS FALSE NEIGHBOUR. Refute it at one input. -/
def FnNameReaderTakesExactlyTheNameCharsToldWrongFalsely : Prop := Claim7.holds Tryf.pinned (.plain (OpenSpec.ofChange fnNameReaderTakesExactlyTheNameCharsWrong)) fnNameReaderTakesExactlyTheNameCharsCard

/-- THE TOLD AND TIED CARD OF 'zzlaws_internal_xmldoc_b1.FnInstructionIsTheXMLProcessingInstruction'. -/
def fnInstructionIsTheXMLProcessingInstructionCard : Claim7 := { stood := { row := fnInstructionIsTheXMLProcessingInstructionRow, standIns := [], harness := (true, "ff6058f2b11d3ad4cd4f8b47b3b8630623d21bf93915ad495de02b9eee5fb6ff"), looks := true }, told := true, laidByText := true, laidKinds := [.data, .data, .data, .pinned, .pinned], laidTests := true, laidLooks := .later, goes := false }
def FnInstructionIsTheXMLProcessingInstructionToldSaid : Prop := Claim7.holds Tryf.pinned (.plain (OpenSpec.ofChange fnInstructionIsTheXMLProcessingInstructionSpec)) fnInstructionIsTheXMLProcessingInstructionCard
/-- ITS FALSE NEIGHBOUR. Refute it at one input. -/
def FnInstructionIsTheXMLProcessingInstructionToldWrongFalsely : Prop := Claim7.holds Tryf.pinned (.plain (OpenSpec.ofChange fnInstructionIsTheXMLProcessingInstructionWrong)) fnInstructionIsTheXMLProcessingInstructionCard

/-- THE TOLD AND TIED CARD OF 'zzlaws_internal_xmldoc_b1.FnInstructionReadsAWrittenInstruction'. -/
def fnInstructionReadsAWrittenInstructionCard : Claim7 := { stood := { row := fnInstructionReadsAWrittenInstructionRow, standIns := [], harness := (true, "ff6058f2b11d3ad4cd4f8b47b3b8630623d21bf93915ad495de02b9eee5fb6ff"), looks := true }, told := true, laidByText := true, laidKinds := [.data, .data, .data, .pinned, .pinned], laidTests := true, laidLooks := .later, goes := false }
def FnInstructionReadsAWrittenInstructionToldSaid : Prop := Claim7.holds Tryf.pinned (.plain (OpenSpec.ofChange fnInstructionReadsAWrittenInstructionSpec)) fnInstructionReadsAWrittenInstructionCard
/-- ITS FALSE NEIGHBOUR. Refute it at one input. -/
def FnInstructionReadsAWrittenInstructionToldWrongFalsely : Prop := Claim7.holds Tryf.pinned (.plain (OpenSpec.ofChange fnInstructionReadsAWrittenInstructionWrong)) fnInstructionReadsAWrittenInstructionCard
end Rows
end Go.Proofs.Qxb6606017aFmt
