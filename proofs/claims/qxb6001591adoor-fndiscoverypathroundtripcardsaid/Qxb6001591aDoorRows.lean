/-
  NARROWER THAN 'FOR EVERY INPUT', by the rows' own cells (each row's printed sentence says how): FnDiscoveryPathAcceptedRendersBack: laid · FnDiscoveryPathRoundTrip: laid · FnDiscoveryPathEndSlashesIgnored: laid · FnDiscoveryPathOneSegmentDeeper: laid.
  DERIVED. THE GIVEN ROWS OF THIS SEAT. 4 by the template 'for every input the law returns true; each argument reads behind the call as it read before'; 0 by the template 'total and deterministic' (their statements: Qxb6001591aDoorTotals.lean).
  GIVEN WITH THE SEED: the statements are not yours to turn. If you find one false, say at which input.
  Laid BY PROGRAM, IN A SANDBOX (cutbox-rows.mjs): the forced cells as the released guide's own fill.sh prints them over the translation aa0b3ebbf009b74f… (all of the seat's roots in one cut). By AI agents, Wed Nov 11 2026. No macro, syntax, notation, axiom, sorry.
-/
import Derived.Test.Qxb6001591aDoorChecked
import GoSem.PinnedTables
import GoSem.Claim
import GoSem.ClaimJoined
import GoSem.ClaimMapViews
import Derived.JoinedTies
import Derived.KernelRfl
namespace Go.Proofs.Qxb6001591aDoor
/- THE CELL 'sum', in the pinned program and in every row, IS THE sha256 OF THE DUMP (.gsa) THAT Qxb6001591aDoorProg.lean LOADS. Nothing in Lean hashes anything: it is a label: what it is worth is what the hold of that sum in a sandbox is worth. -/
noncomputable def Tryd.pinned : Pinned := { name := "qxb6001591adoor", sum := "aa0b3ebbf009b74fbc98316b25029848485374c2b507c2d3e41e855b861dd481", checked := Tryd.checked }
namespace Rows
def none {H : Type} : Left H := { results := [], args := [] }

/- WHAT THE LISTED PACKAGE-LEVEL VARIABLES READ AS WHEN THE CALL BEGINS. Each datum BY PROGRAM (the guide's laid-datum.mjs) off the statement by which the dump's own 'gosem.cut.vars' lays the variable. In a bare row this is a premise. The card (Qxb6001591aDoorCards.lean) ties it to the program's text. -/
def laid_unicode_utf8_acceptRanges {H : Type} : DataW H := .agg [.agg [.lit (.int .u8 128), .lit (.int .u8 191)], .agg [.lit (.int .u8 160), .lit (.int .u8 191)], .agg [.lit (.int .u8 128), .lit (.int .u8 159)], .agg [.lit (.int .u8 144), .lit (.int .u8 191)], .agg [.lit (.int .u8 128), .lit (.int .u8 143)], .agg [.lit (.int .u8 0), .lit (.int .u8 0)], .agg [.lit (.int .u8 0), .lit (.int .u8 0)], .agg [.lit (.int .u8 0), .lit (.int .u8 0)], .agg [.lit (.int .u8 0), .lit (.int .u8 0)], .agg [.lit (.int .u8 0), .lit (.int .u8 0)], .agg [.lit (.int .u8 0), .lit (.int .u8 0)], .agg [.lit (.int .u8 0), .lit (.int .u8 0)], .agg [.lit (.int .u8 0), .lit (.int .u8 0)], .agg [.lit (.int .u8 0), .lit (.int .u8 0)], .agg [.lit (.int .u8 0), .lit (.int .u8 0)], .agg [.lit (.int .u8 0), .lit (.int .u8 0)]]
/-- One of Go's own tables, pinned by name: the form's constant. -/
def laid_unicode_utf8_first : DataW Unit := Go.Pinned.utf8First

/-- 'zzlaws_apitest_b1.FnDiscoveryPathAcceptedRendersBack': WHATEVER THE INPUT: true; the input reads as it did. -/
def fnDiscoveryPathAcceptedRendersBackSpec : ChangeSpec := { name := "fnDiscoveryPathAcceptedRendersBack", fn := fun _ => fun
  | [d] => { results := [.lit (.bool true)], args := [d] }
  | _ => none }
def fnDiscoveryPathAcceptedRendersBackRow : OpenClaim := { program := "qxb6001591adoor", sum := "aa0b3ebbf009b74fbc98316b25029848485374c2b507c2d3e41e855b861dd481", func := "example.com/tidewatch/tidewatch/zzlaws_apitest_b1.FnDiscoveryPathAcceptedRendersBack", spec := "fnDiscoveryPathAcceptedRendersBack", inPlace := ["internal/bytealg.IndexByteString", "internal/bytealg.IndexString", "internal/bytealg.CountString"], named := ["unicode/utf8.first", "unicode/utf8.acceptRanges", "internal/bytealg.MaxLen"], apart := false, laid := [("unicode/utf8.acceptRanges", laid_unicode_utf8_acceptRanges), ("unicode/utf8.first", laid_unicode_utf8_first)] }
def FnDiscoveryPathAcceptedRendersBackSaid : Prop := fnDiscoveryPathAcceptedRendersBackRow.holds Tryd.pinned (OpenSpec.ofChange fnDiscoveryPathAcceptedRendersBackSpec)

/-- ITS FALSE NEIGHBOUR: 'it returns false'. Refute it at one input. -/
def fnDiscoveryPathAcceptedRendersBackWrong : ChangeSpec := { name := "fnDiscoveryPathAcceptedRendersBack", fn := fun _ => fun
  | [d] => { results := [.lit (.bool false)], args := [d] }
  | _ => none }
def FnDiscoveryPathAcceptedRendersBackWrongFalsely : Prop := fnDiscoveryPathAcceptedRendersBackRow.holds Tryd.pinned (OpenSpec.ofChange fnDiscoveryPathAcceptedRendersBackWrong)

/-- 'zzlaws_apitest_b1.FnDiscoveryPathRoundTrip': WHATEVER THE INPUT: true; the input reads as it did. -/
def fnDiscoveryPathRoundTripSpec : ChangeSpec := { name := "fnDiscoveryPathRoundTrip", fn := fun _ => fun
  | [d1, d2, d3, d4] => { results := [.lit (.bool true)], args := [d1, d2, d3, d4] }
  | _ => none }
def fnDiscoveryPathRoundTripRow : OpenClaim := { program := "qxb6001591adoor", sum := "aa0b3ebbf009b74fbc98316b25029848485374c2b507c2d3e41e855b861dd481", func := "example.com/tidewatch/tidewatch/zzlaws_apitest_b1.FnDiscoveryPathRoundTrip", spec := "fnDiscoveryPathRoundTrip", inPlace := ["internal/bytealg.IndexByteString", "internal/bytealg.IndexString", "internal/bytealg.CountString"], named := ["unicode/utf8.first", "unicode/utf8.acceptRanges", "internal/bytealg.MaxLen"], apart := false, laid := [("unicode/utf8.acceptRanges", laid_unicode_utf8_acceptRanges), ("unicode/utf8.first", laid_unicode_utf8_first)] }
def FnDiscoveryPathRoundTripSaid : Prop := fnDiscoveryPathRoundTripRow.holds Tryd.pinned (OpenSpec.ofChange fnDiscoveryPathRoundTripSpec)

/-- ITS FALSE NEIGHBOUR: 'it returns false'. Refute it at one input. -/
def fnDiscoveryPathRoundTripWrong : ChangeSpec := { name := "fnDiscoveryPathRoundTrip", fn := fun _ => fun
  | [d1, d2, d3, d4] => { results := [.lit (.bool false)], args := [d1, d2, d3, d4] }
  | _ => none }
def FnDiscoveryPathRoundTripWrongFalsely : Prop := fnDiscoveryPathRoundTripRow.holds Tryd.pinned (OpenSpec.ofChange fnDiscoveryPathRoundTripWrong)

/-- 'zzlaws_apitest_b1.FnDiscoveryPathEndSlashesIgnored': WHATEVER THE INPUT: true; the input reads as it did. -/
def fnDiscoveryPathEndSlashesIgnoredSpec : ChangeSpec := { name := "fnDiscoveryPathEndSlashesIgnored", fn := fun _ => fun
  | [d1, d2, d3] => { results := [.lit (.bool true)], args := [d1, d2, d3] }
  | _ => none }
def fnDiscoveryPathEndSlashesIgnoredRow : OpenClaim := { program := "qxb6001591adoor", sum := "aa0b3ebbf009b74fbc98316b25029848485374c2b507c2d3e41e855b861dd481", func := "example.com/tidewatch/tidewatch/zzlaws_apitest_b1.FnDiscoveryPathEndSlashesIgnored", spec := "fnDiscoveryPathEndSlashesIgnored", inPlace := ["internal/bytealg.IndexByteString", "internal/bytealg.IndexString", "internal/bytealg.CountString"], named := ["unicode/utf8.first", "unicode/utf8.acceptRanges", "internal/bytealg.MaxLen"], apart := false, laid := [("unicode/utf8.acceptRanges", laid_unicode_utf8_acceptRanges), ("unicode/utf8.first", laid_unicode_utf8_first)] }
def FnDiscoveryPathEndSlashesIgnoredSaid : Prop := fnDiscoveryPathEndSlashesIgnoredRow.holds Tryd.pinned (OpenSpec.ofChange fnDiscoveryPathEndSlashesIgnoredSpec)

/-- ITS FALSE NEIGHBOUR: 'it returns false'. Refute it at one input. -/
def fnDiscoveryPathEndSlashesIgnoredWrong : ChangeSpec := { name := "fnDiscoveryPathEndSlashesIgnored", fn := fun _ => fun
  | [d1, d2, d3] => { results := [.lit (.bool false)], args := [d1, d2, d3] }
  | _ => none }
def FnDiscoveryPathEndSlashesIgnoredWrongFalsely : Prop := fnDiscoveryPathEndSlashesIgnoredRow.holds Tryd.pinned (OpenSpec.ofChange fnDiscoveryPathEndSlashesIgnoredWrong)

/-- 'zzlaws_apitest_b1.FnDiscoveryPathOneSegmentDeeper': WHATEVER THE INPUT: true; the input reads as it did. -/
def fnDiscoveryPathOneSegmentDeeperSpec : ChangeSpec := { name := "fnDiscoveryPathOneSegmentDeeper", fn := fun _ => fun
  | [d1, d2] => { results := [.lit (.bool true)], args := [d1, d2] }
  | _ => none }
def fnDiscoveryPathOneSegmentDeeperRow : OpenClaim := { program := "qxb6001591adoor", sum := "aa0b3ebbf009b74fbc98316b25029848485374c2b507c2d3e41e855b861dd481", func := "example.com/tidewatch/tidewatch/zzlaws_apitest_b1.FnDiscoveryPathOneSegmentDeeper", spec := "fnDiscoveryPathOneSegmentDeeper", inPlace := ["internal/bytealg.IndexByteString", "internal/bytealg.IndexString", "internal/bytealg.CountString"], named := ["unicode/utf8.first", "unicode/utf8.acceptRanges", "internal/bytealg.MaxLen"], apart := false, laid := [("unicode/utf8.acceptRanges", laid_unicode_utf8_acceptRanges), ("unicode/utf8.first", laid_unicode_utf8_first)] }
def FnDiscoveryPathOneSegmentDeeperSaid : Prop := fnDiscoveryPathOneSegmentDeeperRow.holds Tryd.pinned (OpenSpec.ofChange fnDiscoveryPathOneSegmentDeeperSpec)

/-- ITS FALSE NEIGHBOUR: 'it returns false'. Refute it at one input. -/
def fnDiscoveryPathOneSegmentDeeperWrong : ChangeSpec := { name := "fnDiscoveryPathOneSegmentDeeper", fn := fun _ => fun
  | [d1, d2] => { results := [.lit (.bool false)], args := [d1, d2] }
  | _ => none }
def FnDiscoveryPathOneSegmentDeeperWrongFalsely : Prop := fnDiscoveryPathOneSegmentDeeperRow.holds Tryd.pinned (OpenSpec.ofChange fnDiscoveryPathOneSegmentDeeperWrong)

end Rows
end Go.Proofs.Qxb6001591aDoor
