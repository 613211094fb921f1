/-
  No cell of these rows narrows 'for every input' (looked for: loops, veiled, ifaces, maps, wideKeys, modest, calm, conditions, laid).
  DERIVED. THE GIVEN ROWS OF THIS SEAT. 2 by the template 'for every input the law returns true; each argument reads behind the call as it read before'; 0 by the template 'total and deterministic' (their statements: Qxb6604457aTotals.lean).
  GIVEN WITH THE SEED: the statements are not yours to turn. If you find one false, say at which input.
  Laid BY PROGRAM, IN A SANDBOX (cutbox-rows.mjs): the forced cells as the released guide's own fill.sh prints them over the translation f6489023283aa90b… (all of the seat's roots in one cut). By AI agents, Wed Nov 11 2026. No macro, syntax, notation, axiom, sorry.
-/
import Derived.Test.Qxb6604457aChecked
import GoSem.Claim
import GoSem.ClaimJoined
import GoSem.ClaimMapViews
import Derived.JoinedTies
import Derived.KernelRfl
namespace Go.Proofs.Qxb6604457a
/- THE CELL 'sum', in the pinned program and in every row, IS THE sha256 OF THE DUMP (.gsa) THAT Qxb6604457aProg.lean LOADS. Nothing in Lean hashes anything: it is a label: what it is worth is what the hold of that sum in a sandbox is worth. -/
noncomputable def Try.pinned : Pinned := { name := "qxb6604457a", sum := "f6489023283aa90b8f4390f31c08066f837032c9756d911c24516b789af2d2a1", checked := Try.checked }
namespace Rows
def none {H : Type} : Left H := { results := [], args := [] }

/-- 'zzlaws_function_b1.FnFoldFromMatchesPositionScan': WHATEVER THE INPUT: true; the input reads as it did. -/
def fnFoldFromMatchesPositionScanSpec : ChangeSpec := { name := "fnFoldFromMatchesPositionScan", fn := fun _ => fun
  | [d] => { results := [.lit (.bool true)], args := [d] }
  | _ => none }
def fnFoldFromMatchesPositionScanRow : OpenClaim := { program := "qxb6604457a", sum := "f6489023283aa90b8f4390f31c08066f837032c9756d911c24516b789af2d2a1", func := "example.com/thatch/thatch/zzlaws_function_b1.FnFoldFromMatchesPositionScan", spec := "fnFoldFromMatchesPositionScan", inPlace := ["internal/bytealg.IndexByteString", "internal/bytealg.IndexString"], named := ["internal/bytealg.MaxLen"], apart := false }
def FnFoldFromMatchesPositionScanSaid : Prop := fnFoldFromMatchesPositionScanRow.holds Try.pinned (OpenSpec.ofChange fnFoldFromMatchesPositionScanSpec)

/-- ITS FALSE NEIGHBOUR: 'it returns false'. Refute it at one input. -/
def fnFoldFromMatchesPositionScanWrong : ChangeSpec := { name := "fnFoldFromMatchesPositionScan", fn := fun _ => fun
  | [d] => { results := [.lit (.bool false)], args := [d] }
  | _ => none }
def FnFoldFromMatchesPositionScanWrongFalsely : Prop := fnFoldFromMatchesPositionScanRow.holds Try.pinned (OpenSpec.ofChange fnFoldFromMatchesPositionScanWrong)

/-- 'zzlaws_function_b1.FnFoldFromShiftsByPlainPrefixAndIgnoresLaterText': WHATEVER THE INPUT: true; the input reads as it did. -/
def fnFoldFromShiftsByPlainPrefixAndIgnoresLaterTextSpec : ChangeSpec := { name := "fnFoldFromShiftsByPlainPrefixAndIgnoresLaterText", fn := fun _ => fun
  | [d1, d2, d3] => { results := [.lit (.bool true)], args := [d1, d2, d3] }
  | _ => none }
def fnFoldFromShiftsByPlainPrefixAndIgnoresLaterTextRow : OpenClaim := { program := "qxb6604457a", sum := "f6489023283aa90b8f4390f31c08066f837032c9756d911c24516b789af2d2a1", func := "example.com/thatch/thatch/zzlaws_function_b1.FnFoldFromShiftsByPlainPrefixAndIgnoresLaterText", spec := "fnFoldFromShiftsByPlainPrefixAndIgnoresLaterText", inPlace := ["internal/bytealg.IndexByteString", "internal/bytealg.IndexString"], named := ["internal/bytealg.MaxLen"], apart := false }
def FnFoldFromShiftsByPlainPrefixAndIgnoresLaterTextSaid : Prop := fnFoldFromShiftsByPlainPrefixAndIgnoresLaterTextRow.holds Try.pinned (OpenSpec.ofChange fnFoldFromShiftsByPlainPrefixAndIgnoresLaterTextSpec)

/-- ITS FALSE NEIGHBOUR: 'it returns false'. Refute it at one input. -/
def fnFoldFromShiftsByPlainPrefixAndIgnoresLaterTextWrong : ChangeSpec := { name := "fnFoldFromShiftsByPlainPrefixAndIgnoresLaterText", fn := fun _ => fun
  | [d1, d2, d3] => { results := [.lit (.bool false)], args := [d1, d2, d3] }
  | _ => none }
def FnFoldFromShiftsByPlainPrefixAndIgnoresLaterTextWrongFalsely : Prop := fnFoldFromShiftsByPlainPrefixAndIgnoresLaterTextRow.holds Try.pinned (OpenSpec.ofChange fnFoldFromShiftsByPlainPrefixAndIgnoresLaterTextWrong)

end Rows
end Go.Proofs.Qxb6604457a
