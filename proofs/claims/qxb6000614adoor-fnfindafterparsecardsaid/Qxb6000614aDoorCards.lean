/-
  DERIVED. GIVEN WITH THE SEED: THE CARDS: each row of Qxb6000614aDoorRows.lean that lists a variable, with what it lists TIED to the program's text (the seventh form; the later family's looks); each row that meets fmt, with fmt's text TOLD by the authors' own Lean function (tested against real Go, not proved from fmt's source: count such statements apart). THE CARD IS WHAT COUNTS. Prove the row's statement (the work); the ties are given (Qxb6000614aDoorTie.lean); close each card by the builder's one call (the guide's Derived/Test/ToyasCard.lean, 'card_holds'). Laid BY PROGRAM, IN A SANDBOX (cutbox-door.mjs). By AI agents, Wed Nov 11 2026. No macro, syntax, notation, axiom, sorry.
-/
import Derived.Test.Qxb6000614aDoorRows
import GoSem.ClaimSeven
namespace Go.Proofs.Qxb6000614aDoor
namespace Rows

/-- THE TIED CARD OF 'zzlaws_internal_registry_b1.FnParseChallengesRoundTrip'. -/
def fnParseChallengesRoundTripCard : Claim7 := { stood := { row := fnParseChallengesRoundTripRow, standIns := [], harness := (true, "c97d184bdabd0987402edc03081b33f0af1f767831fe59ddb678f9547275cd20"), looks := false }, kinds := [], alts := [], laidByText := true, laidKinds := [.data, .pinned, .pinned], laidTests := true, laidLooks := .later }
def FnParseChallengesRoundTripCardSaid : Prop := Claim7.holds Tryd.pinned (.plain (OpenSpec.ofChange fnParseChallengesRoundTripSpec)) fnParseChallengesRoundTripCard

/-- THE TIED CARD OF 'zzlaws_internal_registry_b1.FnParseChallengesConcat'. -/
def fnParseChallengesConcatCard : Claim7 := { stood := { row := fnParseChallengesConcatRow, standIns := [], harness := (true, "c97d184bdabd0987402edc03081b33f0af1f767831fe59ddb678f9547275cd20"), looks := false }, kinds := [], alts := [], laidByText := true, laidKinds := [.data, .pinned, .pinned], laidTests := true, laidLooks := .later }
def FnParseChallengesConcatCardSaid : Prop := Claim7.holds Tryd.pinned (.plain (OpenSpec.ofChange fnParseChallengesConcatSpec)) fnParseChallengesConcatCard

/-- THE TIED CARD OF 'zzlaws_internal_registry_b1.FnParseChallengesShape'. -/
def fnParseChallengesShapeCard : Claim7 := { stood := { row := fnParseChallengesShapeRow, standIns := [], harness := (true, "c97d184bdabd0987402edc03081b33f0af1f767831fe59ddb678f9547275cd20"), looks := false }, kinds := [], alts := [], laidByText := true, laidKinds := [.data, .pinned, .pinned], laidTests := true, laidLooks := .later }
def FnParseChallengesShapeCardSaid : Prop := Claim7.holds Tryd.pinned (.plain (OpenSpec.ofChange fnParseChallengesShapeSpec)) fnParseChallengesShapeCard

/-- THE TIED CARD OF 'zzlaws_internal_registry_b1.FnFindAfterParse'. -/
def fnFindAfterParseCard : Claim7 := { stood := { row := fnFindAfterParseRow, standIns := [], harness := (true, "c97d184bdabd0987402edc03081b33f0af1f767831fe59ddb678f9547275cd20"), looks := false }, kinds := [], alts := [], laidByText := true, laidKinds := [.data, .pinned, .pinned], laidTests := true, laidLooks := .later }
def FnFindAfterParseCardSaid : Prop := Claim7.holds Tryd.pinned (.plain (OpenSpec.ofChange fnFindAfterParseSpec)) fnFindAfterParseCard
end Rows
end Go.Proofs.Qxb6000614aDoor
