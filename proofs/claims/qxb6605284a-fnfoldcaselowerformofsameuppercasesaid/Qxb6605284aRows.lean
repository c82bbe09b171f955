/-
  No cell of these rows narrows 'for every input' (looked for: loops, veiled, ifaces, maps, wideKeys, modest, calm, conditions, laid).
  DERIVED. THE GIVEN ROWS OF THIS SEAT. 2 by the template 'for every input the law returns true; each argument reads behind the call as it read before'; 0 by the template 'total and deterministic' (their statements: Qxb6605284aTotals.lean).
  GIVEN WITH THE SEED: the statements are not yours to turn. If you find one false, say at which input.
  Laid BY PROGRAM, IN A SANDBOX (cutbox-rows.mjs): the forced cells as the released guide's own fill.sh prints them over the translation 664d6b70d51d879d… (all of the seat's roots in one cut). By AI agents, Wed Nov 11 2026. No macro, syntax, notation, axiom, sorry.
-/
import Derived.Test.Qxb6605284aChecked
import GoSem.Claim
import GoSem.ClaimJoined
import GoSem.ClaimMapViews
import Derived.JoinedTies
import Derived.KernelRfl
namespace Go.Proofs.Qxb6605284a
/- THE CELL 'sum', in the pinned program and in every row, IS THE sha256 OF THE DUMP (.gsa) THAT Qxb6605284aProg.lean LOADS. Nothing in Lean hashes anything: it is a label: what it is worth is what the hold of that sum in a sandbox is worth. -/
noncomputable def Try.pinned : Pinned := { name := "qxb6605284a", sum := "664d6b70d51d879d98b7f85e7c5c0b454593b81ffa9adc24e88bfab14f5cdb3c", checked := Try.checked }
namespace Rows
def none {H : Type} : Left H := { results := [], args := [] }

/-- 'zzlaws_pkg_policy_b1.FnFoldCaseLowerFormOfSameUpperCase': WHATEVER THE INPUT: true; the input reads as it did. -/
def fnFoldCaseLowerFormOfSameUpperCaseSpec : ChangeSpec := { name := "fnFoldCaseLowerFormOfSameUpperCase", fn := fun _ => fun
  | [d] => { results := [.lit (.bool true)], args := [d] }
  | _ => none }
def fnFoldCaseLowerFormOfSameUpperCaseRow : OpenClaim := { program := "qxb6605284a", sum := "664d6b70d51d879d98b7f85e7c5c0b454593b81ffa9adc24e88bfab14f5cdb3c", func := "example.com/hedgerow/hedgerow/zzlaws_pkg_policy_b1.FnFoldCaseLowerFormOfSameUpperCase", spec := "fnFoldCaseLowerFormOfSameUpperCase", apart := false }
def FnFoldCaseLowerFormOfSameUpperCaseSaid : Prop := fnFoldCaseLowerFormOfSameUpperCaseRow.holds Try.pinned (OpenSpec.ofChange fnFoldCaseLowerFormOfSameUpperCaseSpec)

/-- ITS FALSE NEIGHBOUR: 'it returns false'. Refute it at one input. -/
def fnFoldCaseLowerFormOfSameUpperCaseWrong : ChangeSpec := { name := "fnFoldCaseLowerFormOfSameUpperCase", fn := fun _ => fun
  | [d] => { results := [.lit (.bool false)], args := [d] }
  | _ => none }
def FnFoldCaseLowerFormOfSameUpperCaseWrongFalsely : Prop := fnFoldCaseLowerFormOfSameUpperCaseRow.holds Try.pinned (OpenSpec.ofChange fnFoldCaseLowerFormOfSameUpperCaseWrong)

/-- 'zzlaws_pkg_policy_b1.FnFoldCaseEqualExactlyWhenEqualIgnoringASCIICase': WHATEVER THE INPUT: true; the input reads as it did. -/
def fnFoldCaseEqualExactlyWhenEqualIgnoringASCIICaseSpec : ChangeSpec := { name := "fnFoldCaseEqualExactlyWhenEqualIgnoringASCIICase", fn := fun _ => fun
  | [d1, d2] => { results := [.lit (.bool true)], args := [d1, d2] }
  | _ => none }
def fnFoldCaseEqualExactlyWhenEqualIgnoringASCIICaseRow : OpenClaim := { program := "qxb6605284a", sum := "664d6b70d51d879d98b7f85e7c5c0b454593b81ffa9adc24e88bfab14f5cdb3c", func := "example.com/hedgerow/hedgerow/zzlaws_pkg_policy_b1.FnFoldCaseEqualExactlyWhenEqualIgnoringASCIICase", spec := "fnFoldCaseEqualExactlyWhenEqualIgnoringASCIICase", apart := false }
def FnFoldCaseEqualExactlyWhenEqualIgnoringASCIICaseSaid : Prop := fnFoldCaseEqualExactlyWhenEqualIgnoringASCIICaseRow.holds Try.pinned (OpenSpec.ofChange fnFoldCaseEqualExactlyWhenEqualIgnoringASCIICaseSpec)

/-- ITS FALSE NEIGHBOUR: 'it returns false'. Refute it at one input. -/
def fnFoldCaseEqualExactlyWhenEqualIgnoringASCIICaseWrong : ChangeSpec := { name := "fnFoldCaseEqualExactlyWhenEqualIgnoringASCIICase", fn := fun _ => fun
  | [d1, d2] => { results := [.lit (.bool false)], args := [d1, d2] }
  | _ => none }
def FnFoldCaseEqualExactlyWhenEqualIgnoringASCIICaseWrongFalsely : Prop := fnFoldCaseEqualExactlyWhenEqualIgnoringASCIICaseRow.holds Try.pinned (OpenSpec.ofChange fnFoldCaseEqualExactlyWhenEqualIgnoringASCIICaseWrong)

end Rows
end Go.Proofs.Qxb6605284a
