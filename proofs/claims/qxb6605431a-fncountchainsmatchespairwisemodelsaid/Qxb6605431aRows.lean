/-
  No cell of these rows narrows 'for every input' (looked for: loops, veiled, ifaces, maps, wideKeys, modest, calm, conditions, laid).
  DERIVED. THE GIVEN ROWS OF THIS SEAT. 1 by the template 'for every input the law returns true; each argument reads behind the call as it read before'; 0 by the template 'total and deterministic' (their statements: Qxb6605431aTotals.lean).
  GIVEN WITH THE SEED: the statements are not yours to turn. If you find one false, say at which input.
  Laid BY PROGRAM, IN A SANDBOX (cutbox-rows.mjs): the forced cells as the released guide's own fill.sh prints them over the translation cd7b5b49d2c45357… (all of the seat's roots in one cut). By AI agents, Wed Nov 11 2026. No macro, syntax, notation, axiom, sorry.
-/
import Derived.Test.Qxb6605431aChecked
import GoSem.Claim
import GoSem.ClaimJoined
import GoSem.ClaimMapViews
import Derived.JoinedTies
import Derived.KernelRfl
namespace Go.Proofs.Qxb6605431a
/- THE CELL 'sum', in the pinned program and in every row, IS THE sha256 OF THE DUMP (.gsa) THAT Qxb6605431aProg.lean LOADS. Nothing in Lean hashes anything: it is a label: what it is worth is what the hold of that sum in a sandbox is worth. -/
noncomputable def Try.pinned : Pinned := { name := "qxb6605431a", sum := "cd7b5b49d2c45357c9f3388727328d993299a0418358bdcb51cf2ccf6a2b8711", checked := Try.checked }
namespace Rows
def none {H : Type} : Left H := { results := [], args := [] }

/-- 'zzlaws_internal_pairs_b1.FnCountChainsMatchesPairwiseModel': WHATEVER THE INPUT: true; the input reads as it did. -/
def fnCountChainsMatchesPairwiseModelSpec : ChangeSpec := { name := "fnCountChainsMatchesPairwiseModel", fn := fun _ => fun
  | [d] => { results := [.lit (.bool true)], args := [d] }
  | _ => none }
def fnCountChainsMatchesPairwiseModelRow : OpenClaim := { program := "qxb6605431a", sum := "cd7b5b49d2c45357c9f3388727328d993299a0418358bdcb51cf2ccf6a2b8711", func := "example.com/beforehand/beforehand/zzlaws_internal_pairs_b1.FnCountChainsMatchesPairwiseModel", spec := "fnCountChainsMatchesPairwiseModel", apart := false }
def FnCountChainsMatchesPairwiseModelSaid : Prop := fnCountChainsMatchesPairwiseModelRow.holds Try.pinned (OpenSpec.ofChange fnCountChainsMatchesPairwiseModelSpec)

/-- ITS FALSE NEIGHBOUR: 'it returns false'. Refute it at one input. -/
def fnCountChainsMatchesPairwiseModelWrong : ChangeSpec := { name := "fnCountChainsMatchesPairwiseModel", fn := fun _ => fun
  | [d] => { results := [.lit (.bool false)], args := [d] }
  | _ => none }
def FnCountChainsMatchesPairwiseModelWrongFalsely : Prop := fnCountChainsMatchesPairwiseModelRow.holds Try.pinned (OpenSpec.ofChange fnCountChainsMatchesPairwiseModelWrong)

end Rows
end Go.Proofs.Qxb6605431a
