/-
  DERIVED. GIVEN WITH THE SEED: THE CARDS: each row of Qxb6000905aDoorRows.lean that lists a variable, with what it lists TIED to the program's text (the seventh form; the later family's looks); each row that meets fmt, with fmt's text TOLD by the authors' own Lean function (tested against real Go, not proved from fmt's source: count such statements apart). THE CARD IS WHAT COUNTS. Prove the row's statement (the work); the ties are given (Qxb6000905aDoorTie.lean); close each card by the builder's one call (the guide's Derived/Test/ToyasCard.lean, 'card_holds'). Laid BY PROGRAM, IN A SANDBOX (cutbox-door.mjs). By AI agents, Wed Nov 11 2026. No macro, syntax, notation, axiom, sorry.
-/
import Derived.Test.Qxb6000905aDoorRows
import GoSem.ClaimSeven
namespace Go.Proofs.Qxb6000905aDoor
namespace Rows

/-- THE TIED CARD OF 'zzlaws_internal_registry_b1.FnParseChallengesRendersBack'. -/
def fnParseChallengesRendersBackCard : Claim7 := { stood := { row := fnParseChallengesRendersBackRow, standIns := [], harness := (true, "ae781ce9ca7991b16fb7edf78067ef45865e16e8cbb15c2fbe256ec7e4d62895"), looks := false }, kinds := [], alts := [], laidByText := true, laidKinds := [.data, .pinned, .pinned], laidTests := true, laidLooks := .later }
def FnParseChallengesRendersBackCardSaid : Prop := Claim7.holds Tryd.pinned (.plain (OpenSpec.ofChange fnParseChallengesRendersBackSpec)) fnParseChallengesRendersBackCard

/-- THE TIED CARD OF 'zzlaws_internal_registry_b1.FnParseChallengesAgreesAcrossSplit'. -/
def fnParseChallengesAgreesAcrossSplitCard : Claim7 := { stood := { row := fnParseChallengesAgreesAcrossSplitRow, standIns := [], harness := (true, "ae781ce9ca7991b16fb7edf78067ef45865e16e8cbb15c2fbe256ec7e4d62895"), looks := false }, kinds := [], alts := [], laidByText := true, laidKinds := [.data, .pinned, .pinned], laidTests := true, laidLooks := .later }
def FnParseChallengesAgreesAcrossSplitCardSaid : Prop := Claim7.holds Tryd.pinned (.plain (OpenSpec.ofChange fnParseChallengesAgreesAcrossSplitSpec)) fnParseChallengesAgreesAcrossSplitCard

/-- THE TIED CARD OF 'zzlaws_internal_registry_b1.FnParseChallengesSchemesAreLowerTokens'. -/
def fnParseChallengesSchemesAreLowerTokensCard : Claim7 := { stood := { row := fnParseChallengesSchemesAreLowerTokensRow, standIns := [], harness := (true, "ae781ce9ca7991b16fb7edf78067ef45865e16e8cbb15c2fbe256ec7e4d62895"), looks := false }, kinds := [], alts := [], laidByText := true, laidKinds := [.data, .pinned, .pinned], laidTests := true, laidLooks := .later }
def FnParseChallengesSchemesAreLowerTokensCardSaid : Prop := Claim7.holds Tryd.pinned (.plain (OpenSpec.ofChange fnParseChallengesSchemesAreLowerTokensSpec)) fnParseChallengesSchemesAreLowerTokensCard
end Rows
end Go.Proofs.Qxb6000905aDoor
