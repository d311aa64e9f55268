/-
  DERIVED. GIVEN WITH THE SEED: THE CARDS: each row of Qxb6001591aDoorRows.lean that lists a variable, with what it lists TIED to the program's text (the seventh form; the later family's looks); each row that meets fmt, with fmt's text TOLD by the authors' own Lean function (tested against real Go, not proved from fmt's source: count such statements apart). THE CARD IS WHAT COUNTS. Prove the row's statement (the work); the ties are given (Qxb6001591aDoorTie.lean); close each card by the builder's one call (the guide's Derived/Test/ToyasCard.lean, 'card_holds'). Laid BY PROGRAM, IN A SANDBOX (cutbox-door.mjs). By AI agents, Wed Nov 11 2026. No macro, syntax, notation, axiom, sorry.
-/
import Derived.Test.Qxb6001591aDoorRows
import GoSem.ClaimSeven
namespace Go.Proofs.Qxb6001591aDoor
namespace Rows

/-- THE TIED CARD OF 'zzlaws_apitest_b1.FnDiscoveryPathAcceptedRendersBack'. -/
def fnDiscoveryPathAcceptedRendersBackCard : Claim7 := { stood := { row := fnDiscoveryPathAcceptedRendersBackRow, standIns := [], harness := (true, "03863bfd143406bea6af9bba5f366f2be72bfc9e71e38884a1d0bf9eb1bfccc9"), looks := false }, kinds := [], alts := [], laidByText := true, laidKinds := [.data, .pinned], laidTests := true, laidLooks := .later }
def FnDiscoveryPathAcceptedRendersBackCardSaid : Prop := Claim7.holds Tryd.pinned (.plain (OpenSpec.ofChange fnDiscoveryPathAcceptedRendersBackSpec)) fnDiscoveryPathAcceptedRendersBackCard

/-- THE TIED CARD OF 'zzlaws_apitest_b1.FnDiscoveryPathRoundTrip'. -/
def fnDiscoveryPathRoundTripCard : Claim7 := { stood := { row := fnDiscoveryPathRoundTripRow, standIns := [], harness := (true, "03863bfd143406bea6af9bba5f366f2be72bfc9e71e38884a1d0bf9eb1bfccc9"), looks := false }, kinds := [], alts := [], laidByText := true, laidKinds := [.data, .pinned], laidTests := true, laidLooks := .later }
def FnDiscoveryPathRoundTripCardSaid : Prop := Claim7.holds Tryd.pinned (.plain (OpenSpec.ofChange fnDiscoveryPathRoundTripSpec)) fnDiscoveryPathRoundTripCard

/-- THE TIED CARD OF 'zzlaws_apitest_b1.FnDiscoveryPathEndSlashesIgnored'. -/
def fnDiscoveryPathEndSlashesIgnoredCard : Claim7 := { stood := { row := fnDiscoveryPathEndSlashesIgnoredRow, standIns := [], harness := (true, "03863bfd143406bea6af9bba5f366f2be72bfc9e71e38884a1d0bf9eb1bfccc9"), looks := false }, kinds := [], alts := [], laidByText := true, laidKinds := [.data, .pinned], laidTests := true, laidLooks := .later }
def FnDiscoveryPathEndSlashesIgnoredCardSaid : Prop := Claim7.holds Tryd.pinned (.plain (OpenSpec.ofChange fnDiscoveryPathEndSlashesIgnoredSpec)) fnDiscoveryPathEndSlashesIgnoredCard

/-- THE TIED CARD OF 'zzlaws_apitest_b1.FnDiscoveryPathOneSegmentDeeper'. -/
def fnDiscoveryPathOneSegmentDeeperCard : Claim7 := { stood := { row := fnDiscoveryPathOneSegmentDeeperRow, standIns := [], harness := (true, "03863bfd143406bea6af9bba5f366f2be72bfc9e71e38884a1d0bf9eb1bfccc9"), looks := false }, kinds := [], alts := [], laidByText := true, laidKinds := [.data, .pinned], laidTests := true, laidLooks := .later }
def FnDiscoveryPathOneSegmentDeeperCardSaid : Prop := Claim7.holds Tryd.pinned (.plain (OpenSpec.ofChange fnDiscoveryPathOneSegmentDeeperSpec)) fnDiscoveryPathOneSegmentDeeperCard
end Rows
end Go.Proofs.Qxb6001591aDoor
