/-
  DERIVED. GIVEN WITH THE SEED: THE CARDS: each row of Qxb6602621aDoorRows.lean that lists a variable, with what it lists TIED to the program's text (the seventh form; the later family's looks); each row that meets fmt, with fmt's text TOLD by the authors' own Lean function (tested against real Go, not proved from fmt's source: count such statements apart). THE CARD IS WHAT COUNTS. Prove the row's statement (the work); the ties are given (Qxb6602621aDoorTie.lean); close each card by the builder's one call (the guide's Derived/Test/ToyasCard.lean, 'card_holds'). Laid BY PROGRAM, IN A SANDBOX (cutbox-door.mjs). By AI agents, Wed Nov 11 2026. No macro, syntax, notation, axiom, sorry.
-/
import Derived.Test.Qxb6602621aDoorRows
import GoSem.ClaimSeven
namespace Go.Proofs.Qxb6602621aDoor
namespace Rows

/-- THE TIED CARD OF 'zzlaws_internal_procstatus_e1.FnParseSignalsMatchesModel'. -/
def fnParseSignalsMatchesModelCard : Claim7 := { stood := { row := fnParseSignalsMatchesModelRow, standIns := [], harness := (true, "1cb99e4a4a802f715e23fbfb294d14b6e30add9f1fa72a223190089fb62ad023"), looks := true }, kinds := [], alts := [], laidByText := true, laidKinds := [.data, .data, .data, .data, .sentinel, .sentinel, .listed, .data, .pinned], laidTests := true, laidLooks := .later }
def FnParseSignalsMatchesModelCardSaid : Prop := Claim7.holds Tryd.pinned (.plain (OpenSpec.ofChange fnParseSignalsMatchesModelSpec)) fnParseSignalsMatchesModelCard

/-- THE TIED CARD OF 'zzlaws_internal_procstatus_e1.FnParseSignalsReadsWhatIsWritten'. -/
def fnParseSignalsReadsWhatIsWrittenCard : Claim7 := { stood := { row := fnParseSignalsReadsWhatIsWrittenRow, standIns := [], harness := (true, "1cb99e4a4a802f715e23fbfb294d14b6e30add9f1fa72a223190089fb62ad023"), looks := true }, kinds := [], alts := [], laidByText := true, laidKinds := [.data, .data, .data, .data, .sentinel, .sentinel, .listed, .data, .pinned], laidTests := true, laidLooks := .later }
def FnParseSignalsReadsWhatIsWrittenCardSaid : Prop := Claim7.holds Tryd.pinned (.plain (OpenSpec.ofChange fnParseSignalsReadsWhatIsWrittenSpec)) fnParseSignalsReadsWhatIsWrittenCard

/-- THE TIED CARD OF 'zzlaws_internal_procstatus_e1.FnParseSignalsLeadingZeroChangesNothing'. -/
def fnParseSignalsLeadingZeroChangesNothingCard : Claim7 := { stood := { row := fnParseSignalsLeadingZeroChangesNothingRow, standIns := [], harness := (true, "1cb99e4a4a802f715e23fbfb294d14b6e30add9f1fa72a223190089fb62ad023"), looks := true }, kinds := [], alts := [], laidByText := true, laidKinds := [.data, .data, .data, .data, .sentinel, .sentinel, .listed, .data, .pinned], laidTests := true, laidLooks := .later }
def FnParseSignalsLeadingZeroChangesNothingCardSaid : Prop := Claim7.holds Tryd.pinned (.plain (OpenSpec.ofChange fnParseSignalsLeadingZeroChangesNothingSpec)) fnParseSignalsLeadingZeroChangesNothingCard
end Rows
end Go.Proofs.Qxb6602621aDoor
