/-
  No cell of these rows narrows 'for every input' (looked for: loops, veiled, ifaces, maps, wideKeys, modest, calm, conditions, laid).
  DERIVED. THE GIVEN ROWS OF THIS SEAT. 4 by the template 'for every input the law returns true; each argument reads behind the call as it read before'; 0 by the template 'total and deterministic' (their statements: Qxb6605233aTotals.lean).
  GIVEN WITH THE SEED: the statements are not yours to turn. If you find one false, say at which input.
  Laid BY PROGRAM, IN A SANDBOX (cutbox-rows.mjs): the forced cells as the released guide's own fill.sh prints them over the translation 9b16c0450759f366… (all of the seat's roots in one cut). By AI agents, Wed Nov 11 2026. No macro, syntax, notation, axiom, sorry.
-/
import Derived.Test.Qxb6605233aChecked
import GoSem.Claim
import GoSem.ClaimJoined
import GoSem.ClaimMapViews
import Derived.JoinedTies
import Derived.KernelRfl
namespace Go.Proofs.Qxb6605233a
/- THE CELL 'sum', in the pinned program and in every row, IS THE sha256 OF THE DUMP (.gsa) THAT Qxb6605233aProg.lean LOADS. Nothing in Lean hashes anything: it is a label: what it is worth is what the hold of that sum in a sandbox is worth. -/
noncomputable def Try.pinned : Pinned := { name := "qxb6605233a", sum := "9b16c0450759f36644ca41b340eeac2cfc432a19520698dde7adbe85c3185d18", checked := Try.checked }
namespace Rows
def none {H : Type} : Left H := { results := [], args := [] }

/-- 'zzlaws_root_b1.FnWordsMatchesBitLength': WHATEVER THE INPUT: true; the input reads as it did. -/
def fnWordsMatchesBitLengthSpec : ChangeSpec := { name := "fnWordsMatchesBitLength", fn := fun _ => fun
  | [d1, d2, d3, d4] => { results := [.lit (.bool true)], args := [d1, d2, d3, d4] }
  | _ => none }
def fnWordsMatchesBitLengthRow : OpenClaim := { program := "qxb6605233a", sum := "9b16c0450759f36644ca41b340eeac2cfc432a19520698dde7adbe85c3185d18", func := "example.com/kinkcurve/kinkcurve/zzlaws_root_b1.FnWordsMatchesBitLength", spec := "fnWordsMatchesBitLength", apart := false }
def FnWordsMatchesBitLengthSaid : Prop := fnWordsMatchesBitLengthRow.holds Try.pinned (OpenSpec.ofChange fnWordsMatchesBitLengthSpec)

/-- ITS FALSE NEIGHBOUR: 'it returns false'. Refute it at one input. -/
def fnWordsMatchesBitLengthWrong : ChangeSpec := { name := "fnWordsMatchesBitLength", fn := fun _ => fun
  | [d1, d2, d3, d4] => { results := [.lit (.bool false)], args := [d1, d2, d3, d4] }
  | _ => none }
def FnWordsMatchesBitLengthWrongFalsely : Prop := fnWordsMatchesBitLengthRow.holds Try.pinned (OpenSpec.ofChange fnWordsMatchesBitLengthWrong)

/-- 'zzlaws_root_b1.FnEqualFoldASCIISwapCaseSymmetry': WHATEVER THE INPUT: true; the input reads as it did. -/
def fnEqualFoldASCIISwapCaseSymmetrySpec : ChangeSpec := { name := "fnEqualFoldASCIISwapCaseSymmetry", fn := fun _ => fun
  | [d1, d2] => { results := [.lit (.bool true)], args := [d1, d2] }
  | _ => none }
def fnEqualFoldASCIISwapCaseSymmetryRow : OpenClaim := { program := "qxb6605233a", sum := "9b16c0450759f36644ca41b340eeac2cfc432a19520698dde7adbe85c3185d18", func := "example.com/kinkcurve/kinkcurve/zzlaws_root_b1.FnEqualFoldASCIISwapCaseSymmetry", spec := "fnEqualFoldASCIISwapCaseSymmetry", apart := false }
def FnEqualFoldASCIISwapCaseSymmetrySaid : Prop := fnEqualFoldASCIISwapCaseSymmetryRow.holds Try.pinned (OpenSpec.ofChange fnEqualFoldASCIISwapCaseSymmetrySpec)

/-- ITS FALSE NEIGHBOUR: 'it returns false'. Refute it at one input. -/
def fnEqualFoldASCIISwapCaseSymmetryWrong : ChangeSpec := { name := "fnEqualFoldASCIISwapCaseSymmetry", fn := fun _ => fun
  | [d1, d2] => { results := [.lit (.bool false)], args := [d1, d2] }
  | _ => none }
def FnEqualFoldASCIISwapCaseSymmetryWrongFalsely : Prop := fnEqualFoldASCIISwapCaseSymmetryRow.holds Try.pinned (OpenSpec.ofChange fnEqualFoldASCIISwapCaseSymmetryWrong)

/-- 'zzlaws_root_b1.FnPlacePointMatchesPaddedModel': WHATEVER THE INPUT: true; the input reads as it did. -/
def fnPlacePointMatchesPaddedModelSpec : ChangeSpec := { name := "fnPlacePointMatchesPaddedModel", fn := fun _ => fun
  | [d1, d2, d3] => { results := [.lit (.bool true)], args := [d1, d2, d3] }
  | _ => none }
def fnPlacePointMatchesPaddedModelRow : OpenClaim := { program := "qxb6605233a", sum := "9b16c0450759f36644ca41b340eeac2cfc432a19520698dde7adbe85c3185d18", func := "example.com/kinkcurve/kinkcurve/zzlaws_root_b1.FnPlacePointMatchesPaddedModel", spec := "fnPlacePointMatchesPaddedModel", apart := false }
def FnPlacePointMatchesPaddedModelSaid : Prop := fnPlacePointMatchesPaddedModelRow.holds Try.pinned (OpenSpec.ofChange fnPlacePointMatchesPaddedModelSpec)

/-- ITS FALSE NEIGHBOUR: 'it returns false'. Refute it at one input. -/
def fnPlacePointMatchesPaddedModelWrong : ChangeSpec := { name := "fnPlacePointMatchesPaddedModel", fn := fun _ => fun
  | [d1, d2, d3] => { results := [.lit (.bool false)], args := [d1, d2, d3] }
  | _ => none }
def FnPlacePointMatchesPaddedModelWrongFalsely : Prop := fnPlacePointMatchesPaddedModelRow.holds Try.pinned (OpenSpec.ofChange fnPlacePointMatchesPaddedModelWrong)

/-- 'zzlaws_root_b1.FnPlacePointRoundTrip': WHATEVER THE INPUT: true; the input reads as it did. -/
def fnPlacePointRoundTripSpec : ChangeSpec := { name := "fnPlacePointRoundTrip", fn := fun _ => fun
  | [d1, d2, d3] => { results := [.lit (.bool true)], args := [d1, d2, d3] }
  | _ => none }
def fnPlacePointRoundTripRow : OpenClaim := { program := "qxb6605233a", sum := "9b16c0450759f36644ca41b340eeac2cfc432a19520698dde7adbe85c3185d18", func := "example.com/kinkcurve/kinkcurve/zzlaws_root_b1.FnPlacePointRoundTrip", spec := "fnPlacePointRoundTrip", apart := false }
def FnPlacePointRoundTripSaid : Prop := fnPlacePointRoundTripRow.holds Try.pinned (OpenSpec.ofChange fnPlacePointRoundTripSpec)

/-- ITS FALSE NEIGHBOUR: 'it returns false'. Refute it at one input. -/
def fnPlacePointRoundTripWrong : ChangeSpec := { name := "fnPlacePointRoundTrip", fn := fun _ => fun
  | [d1, d2, d3] => { results := [.lit (.bool false)], args := [d1, d2, d3] }
  | _ => none }
def FnPlacePointRoundTripWrongFalsely : Prop := fnPlacePointRoundTripRow.holds Try.pinned (OpenSpec.ofChange fnPlacePointRoundTripWrong)

end Rows
end Go.Proofs.Qxb6605233a
