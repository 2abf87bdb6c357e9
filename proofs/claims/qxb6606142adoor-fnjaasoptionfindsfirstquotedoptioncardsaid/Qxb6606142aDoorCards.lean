/-
  DERIVED. GIVEN WITH THE SEED: THE CARDS: each row of Qxb6606142aDoorRows.lean that lists a variable, with what it lists TIED to the program's text (the seventh form; the later family's looks); each row that meets fmt, with fmt's text TOLD by the authors' own Lean function (tested against real Go, not proved from fmt's source: count such statements apart). THE CARD IS WHAT COUNTS. Prove the row's statement (the work); the ties are given (Qxb6606142aDoorTie.lean); close each card by the builder's one call (the guide's Derived/Test/ToyasCard.lean, 'card_holds'). Laid BY PROGRAM, IN A SANDBOX (cutbox-door.mjs). By AI agents, Wed Nov 11 2026. No macro, syntax, notation, axiom, sorry.
-/
import Derived.Test.Qxb6606142aDoorRows
import GoSem.ClaimSeven
namespace Go.Proofs.Qxb6606142aDoor
namespace Rows

/-- THE TIED CARD OF 'zzlaws_internal_connectconfig_b1.FnJaasTokensReadsBackQuotedTokens'. -/
def fnJaasTokensReadsBackQuotedTokensCard : Claim7 := { stood := { row := fnJaasTokensReadsBackQuotedTokensRow, standIns := [], harness := (true, "c738e21b2471173631e6cbb6c7851f78ac54065229d373619ea065a4c932e20e"), looks := false }, kinds := [], alts := [], laidByText := true, laidKinds := [.data, .listed, .data, .pinned], laidTests := true, laidLooks := .later }
def FnJaasTokensReadsBackQuotedTokensCardSaid : Prop := Claim7.holds Tryd.pinned (.plain (OpenSpec.ofChange fnJaasTokensReadsBackQuotedTokensSpec)) fnJaasTokensReadsBackQuotedTokensCard

/-- THE TIED CARD OF 'zzlaws_internal_connectconfig_b1.FnJAASOptionFindsFirstQuotedOption'. -/
def fnJAASOptionFindsFirstQuotedOptionCard : Claim7 := { stood := { row := fnJAASOptionFindsFirstQuotedOptionRow, standIns := [], harness := (true, "c738e21b2471173631e6cbb6c7851f78ac54065229d373619ea065a4c932e20e"), looks := false }, kinds := [], alts := [], laidByText := true, laidKinds := [.data, .listed, .data, .pinned], laidTests := true, laidLooks := .later }
def FnJAASOptionFindsFirstQuotedOptionCardSaid : Prop := Claim7.holds Tryd.pinned (.plain (OpenSpec.ofChange fnJAASOptionFindsFirstQuotedOptionSpec)) fnJAASOptionFindsFirstQuotedOptionCard

/-- THE TIED CARD OF 'zzlaws_internal_connectconfig_b1.FnJAASOptionAnswerStandsInTokens'. -/
def fnJAASOptionAnswerStandsInTokensCard : Claim7 := { stood := { row := fnJAASOptionAnswerStandsInTokensRow, standIns := [], harness := (true, "c738e21b2471173631e6cbb6c7851f78ac54065229d373619ea065a4c932e20e"), looks := false }, kinds := [], alts := [], laidByText := true, laidKinds := [.data, .listed, .data, .pinned], laidTests := true, laidLooks := .later }
def FnJAASOptionAnswerStandsInTokensCardSaid : Prop := Claim7.holds Tryd.pinned (.plain (OpenSpec.ofChange fnJAASOptionAnswerStandsInTokensSpec)) fnJAASOptionAnswerStandsInTokensCard
end Rows
end Go.Proofs.Qxb6606142aDoor
