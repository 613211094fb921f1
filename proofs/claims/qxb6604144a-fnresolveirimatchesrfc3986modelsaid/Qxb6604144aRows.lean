/-
  No cell of these rows narrows 'for every input' (looked for: loops, veiled, ifaces, maps, wideKeys, modest, calm, conditions, laid).
  DERIVED. THE GIVEN ROWS OF THIS SEAT. 5 by the template 'for every input the law returns true; each argument reads behind the call as it read before'; 0 by the template 'total and deterministic' (their statements: Qxb6604144aTotals.lean).
  GIVEN WITH THE SEED: the statements are not yours to turn. If you find one false, say at which input.
  Laid BY PROGRAM, IN A SANDBOX (cutbox-rows.mjs): the forced cells as the released guide's own fill.sh prints them over the translation 905fdae97518bdb1… (all of the seat's roots in one cut). By AI agents, Wed Nov 11 2026. No macro, syntax, notation, axiom, sorry.
-/
import Derived.Test.Qxb6604144aChecked
import GoSem.Claim
import GoSem.ClaimJoined
import GoSem.ClaimMapViews
import Derived.JoinedTies
import Derived.KernelRfl
namespace Go.Proofs.Qxb6604144a
/- THE CELL 'sum', in the pinned program and in every row, IS THE sha256 OF THE DUMP (.gsa) THAT Qxb6604144aProg.lean LOADS. Nothing in Lean hashes anything: it is a label: what it is worth is what the hold of that sum in a sandbox is worth. -/
noncomputable def Try.pinned : Pinned := { name := "qxb6604144a", sum := "905fdae97518bdb1d58034b36936a81b568e4cc59cf082e88cdd5a67d4dfe88f", checked := Try.checked }
namespace Rows
def none {H : Type} : Left H := { results := [], args := [] }

/-- 'zzlaws_pkg_rdf_b1.FnRemoveDotSegmentsMatchesStackModel': WHATEVER THE INPUT: true; the input reads as it did. -/
def fnRemoveDotSegmentsMatchesStackModelSpec : ChangeSpec := { name := "fnRemoveDotSegmentsMatchesStackModel", fn := fun _ => fun
  | [d] => { results := [.lit (.bool true)], args := [d] }
  | _ => none }
def fnRemoveDotSegmentsMatchesStackModelRow : OpenClaim := { program := "qxb6604144a", sum := "905fdae97518bdb1d58034b36936a81b568e4cc59cf082e88cdd5a67d4dfe88f", func := "example.com/millrace/millrace/zzlaws_pkg_rdf_b1.FnRemoveDotSegmentsMatchesStackModel", spec := "fnRemoveDotSegmentsMatchesStackModel", inPlace := ["internal/bytealg.IndexByteString", "internal/bytealg.IndexString", "internal/abi.NoEscape", "internal/bytealg.MakeNoZero"], named := ["internal/bytealg.MaxLen"], apart := false }
def FnRemoveDotSegmentsMatchesStackModelSaid : Prop := fnRemoveDotSegmentsMatchesStackModelRow.holds Try.pinned (OpenSpec.ofChange fnRemoveDotSegmentsMatchesStackModelSpec)

/-- ITS FALSE NEIGHBOUR: 'it returns false'. Refute it at one input. -/
def fnRemoveDotSegmentsMatchesStackModelWrong : ChangeSpec := { name := "fnRemoveDotSegmentsMatchesStackModel", fn := fun _ => fun
  | [d] => { results := [.lit (.bool false)], args := [d] }
  | _ => none }
def FnRemoveDotSegmentsMatchesStackModelWrongFalsely : Prop := fnRemoveDotSegmentsMatchesStackModelRow.holds Try.pinned (OpenSpec.ofChange fnRemoveDotSegmentsMatchesStackModelWrong)

/-- 'zzlaws_pkg_rdf_b1.FnSplitIRIMatchesAppendixBScan': WHATEVER THE INPUT: true; the input reads as it did. -/
def fnSplitIRIMatchesAppendixBScanSpec : ChangeSpec := { name := "fnSplitIRIMatchesAppendixBScan", fn := fun _ => fun
  | [d] => { results := [.lit (.bool true)], args := [d] }
  | _ => none }
def fnSplitIRIMatchesAppendixBScanRow : OpenClaim := { program := "qxb6604144a", sum := "905fdae97518bdb1d58034b36936a81b568e4cc59cf082e88cdd5a67d4dfe88f", func := "example.com/millrace/millrace/zzlaws_pkg_rdf_b1.FnSplitIRIMatchesAppendixBScan", spec := "fnSplitIRIMatchesAppendixBScan", inPlace := ["internal/bytealg.IndexByteString", "internal/bytealg.IndexString"], named := ["internal/bytealg.MaxLen"], apart := false }
def FnSplitIRIMatchesAppendixBScanSaid : Prop := fnSplitIRIMatchesAppendixBScanRow.holds Try.pinned (OpenSpec.ofChange fnSplitIRIMatchesAppendixBScanSpec)

/-- ITS FALSE NEIGHBOUR: 'it returns false'. Refute it at one input. -/
def fnSplitIRIMatchesAppendixBScanWrong : ChangeSpec := { name := "fnSplitIRIMatchesAppendixBScan", fn := fun _ => fun
  | [d] => { results := [.lit (.bool false)], args := [d] }
  | _ => none }
def FnSplitIRIMatchesAppendixBScanWrongFalsely : Prop := fnSplitIRIMatchesAppendixBScanRow.holds Try.pinned (OpenSpec.ofChange fnSplitIRIMatchesAppendixBScanWrong)

/-- 'zzlaws_pkg_rdf_b1.FnSplitIRIJoinRoundTrip': WHATEVER THE INPUT: true; the input reads as it did. -/
def fnSplitIRIJoinRoundTripSpec : ChangeSpec := { name := "fnSplitIRIJoinRoundTrip", fn := fun _ => fun
  | [d] => { results := [.lit (.bool true)], args := [d] }
  | _ => none }
def fnSplitIRIJoinRoundTripRow : OpenClaim := { program := "qxb6604144a", sum := "905fdae97518bdb1d58034b36936a81b568e4cc59cf082e88cdd5a67d4dfe88f", func := "example.com/millrace/millrace/zzlaws_pkg_rdf_b1.FnSplitIRIJoinRoundTrip", spec := "fnSplitIRIJoinRoundTrip", inPlace := ["internal/bytealg.IndexByteString", "internal/bytealg.IndexString", "internal/abi.NoEscape"], named := ["internal/bytealg.MaxLen"], apart := false }
def FnSplitIRIJoinRoundTripSaid : Prop := fnSplitIRIJoinRoundTripRow.holds Try.pinned (OpenSpec.ofChange fnSplitIRIJoinRoundTripSpec)

/-- ITS FALSE NEIGHBOUR: 'it returns false'. Refute it at one input. -/
def fnSplitIRIJoinRoundTripWrong : ChangeSpec := { name := "fnSplitIRIJoinRoundTrip", fn := fun _ => fun
  | [d] => { results := [.lit (.bool false)], args := [d] }
  | _ => none }
def FnSplitIRIJoinRoundTripWrongFalsely : Prop := fnSplitIRIJoinRoundTripRow.holds Try.pinned (OpenSpec.ofChange fnSplitIRIJoinRoundTripWrong)

/-- 'zzlaws_pkg_rdf_b1.FnSplitIRIInvertsJoinOfWellFormedParts': WHATEVER THE INPUT: true; the input reads as it did. -/
def fnSplitIRIInvertsJoinOfWellFormedPartsSpec : ChangeSpec := { name := "fnSplitIRIInvertsJoinOfWellFormedParts", fn := fun _ => fun
  | [d1, d2, d3, d4, d5, d6, d7, d8] => { results := [.lit (.bool true)], args := [d1, d2, d3, d4, d5, d6, d7, d8] }
  | _ => none }
def fnSplitIRIInvertsJoinOfWellFormedPartsRow : OpenClaim := { program := "qxb6604144a", sum := "905fdae97518bdb1d58034b36936a81b568e4cc59cf082e88cdd5a67d4dfe88f", func := "example.com/millrace/millrace/zzlaws_pkg_rdf_b1.FnSplitIRIInvertsJoinOfWellFormedParts", spec := "fnSplitIRIInvertsJoinOfWellFormedParts", inPlace := ["internal/abi.NoEscape", "internal/bytealg.IndexByteString", "internal/bytealg.IndexString"], named := ["internal/bytealg.MaxLen"], apart := false }
def FnSplitIRIInvertsJoinOfWellFormedPartsSaid : Prop := fnSplitIRIInvertsJoinOfWellFormedPartsRow.holds Try.pinned (OpenSpec.ofChange fnSplitIRIInvertsJoinOfWellFormedPartsSpec)

/-- ITS FALSE NEIGHBOUR: 'it returns false'. Refute it at one input. -/
def fnSplitIRIInvertsJoinOfWellFormedPartsWrong : ChangeSpec := { name := "fnSplitIRIInvertsJoinOfWellFormedParts", fn := fun _ => fun
  | [d1, d2, d3, d4, d5, d6, d7, d8] => { results := [.lit (.bool false)], args := [d1, d2, d3, d4, d5, d6, d7, d8] }
  | _ => none }
def FnSplitIRIInvertsJoinOfWellFormedPartsWrongFalsely : Prop := fnSplitIRIInvertsJoinOfWellFormedPartsRow.holds Try.pinned (OpenSpec.ofChange fnSplitIRIInvertsJoinOfWellFormedPartsWrong)

/-- 'zzlaws_pkg_rdf_b1.FnResolveIRIMatchesRFC3986Model': WHATEVER THE INPUT: true; the input reads as it did. -/
def fnResolveIRIMatchesRFC3986ModelSpec : ChangeSpec := { name := "fnResolveIRIMatchesRFC3986Model", fn := fun _ => fun
  | [d1, d2] => { results := [.lit (.bool true)], args := [d1, d2] }
  | _ => none }
def fnResolveIRIMatchesRFC3986ModelRow : OpenClaim := { program := "qxb6604144a", sum := "905fdae97518bdb1d58034b36936a81b568e4cc59cf082e88cdd5a67d4dfe88f", func := "example.com/millrace/millrace/zzlaws_pkg_rdf_b1.FnResolveIRIMatchesRFC3986Model", spec := "fnResolveIRIMatchesRFC3986Model", inPlace := ["internal/bytealg.IndexByteString", "internal/bytealg.IndexString", "internal/abi.NoEscape", "internal/bytealg.MakeNoZero"], named := ["internal/bytealg.MaxLen"], apart := false }
def FnResolveIRIMatchesRFC3986ModelSaid : Prop := fnResolveIRIMatchesRFC3986ModelRow.holds Try.pinned (OpenSpec.ofChange fnResolveIRIMatchesRFC3986ModelSpec)

/-- ITS FALSE NEIGHBOUR: 'it returns false'. Refute it at one input. -/
def fnResolveIRIMatchesRFC3986ModelWrong : ChangeSpec := { name := "fnResolveIRIMatchesRFC3986Model", fn := fun _ => fun
  | [d1, d2] => { results := [.lit (.bool false)], args := [d1, d2] }
  | _ => none }
def FnResolveIRIMatchesRFC3986ModelWrongFalsely : Prop := fnResolveIRIMatchesRFC3986ModelRow.holds Try.pinned (OpenSpec.ofChange fnResolveIRIMatchesRFC3986ModelWrong)

end Rows
end Go.Proofs.Qxb6604144a
