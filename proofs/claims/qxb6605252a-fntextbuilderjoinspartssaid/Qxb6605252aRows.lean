/-
  No cell of these rows narrows 'for every input' (looked for: loops, veiled, ifaces, maps, wideKeys, modest, calm, conditions, laid).
  DERIVED. THE GIVEN ROWS OF THIS SEAT. 3 by the template 'for every input the law returns true; each argument reads behind the call as it read before'; 0 by the template 'total and deterministic' (their statements: Qxb6605252aTotals.lean).
  GIVEN WITH THE SEED: the statements are not yours to turn. If you find one false, say at which input.
  Laid BY PROGRAM, IN A SANDBOX (cutbox-rows.mjs): the forced cells as the released guide's own fill.sh prints them over the translation 2eadb033315ce233… (all of the seat's roots in one cut). By AI agents, Wed Nov 11 2026. No macro, syntax, notation, axiom, sorry.
-/
import Derived.Test.Qxb6605252aChecked
import GoSem.Claim
import GoSem.ClaimJoined
import GoSem.ClaimMapViews
import Derived.JoinedTies
import Derived.KernelRfl
namespace Go.Proofs.Qxb6605252a
/- THE CELL 'sum', in the pinned program and in every row, IS THE sha256 OF THE DUMP (.gsa) THAT Qxb6605252aProg.lean LOADS. Nothing in Lean hashes anything: it is a label: what it is worth is what the hold of that sum in a sandbox is worth. -/
noncomputable def Try.pinned : Pinned := { name := "qxb6605252a", sum := "2eadb033315ce2330c6670a26d784e695b67edd68ead8c657cd9b8190f8fea4a", checked := Try.checked }
namespace Rows
def none {H : Type} : Left H := { results := [], args := [] }

/-- 'zzlaws_pkg_awsapi_b1.FnTextBuilderAddAppendsPart': WHATEVER THE INPUT: true; the input reads as it did. -/
def fnTextBuilderAddAppendsPartSpec : ChangeSpec := { name := "fnTextBuilderAddAppendsPart", fn := fun _ => fun
  | [d1, d2, d3] => { results := [.lit (.bool true)], args := [d1, d2, d3] }
  | _ => none }
def fnTextBuilderAddAppendsPartRow : OpenClaim := { program := "qxb6605252a", sum := "2eadb033315ce2330c6670a26d784e695b67edd68ead8c657cd9b8190f8fea4a", func := "example.com/vouchsafe/vouchsafe/zzlaws_pkg_awsapi_b1.FnTextBuilderAddAppendsPart", spec := "fnTextBuilderAddAppendsPart", apart := false }
def FnTextBuilderAddAppendsPartSaid : Prop := fnTextBuilderAddAppendsPartRow.holds Try.pinned (OpenSpec.ofChange fnTextBuilderAddAppendsPartSpec)

/-- ITS FALSE NEIGHBOUR: 'it returns false'. Refute it at one input. -/
def fnTextBuilderAddAppendsPartWrong : ChangeSpec := { name := "fnTextBuilderAddAppendsPart", fn := fun _ => fun
  | [d1, d2, d3] => { results := [.lit (.bool false)], args := [d1, d2, d3] }
  | _ => none }
def FnTextBuilderAddAppendsPartWrongFalsely : Prop := fnTextBuilderAddAppendsPartRow.holds Try.pinned (OpenSpec.ofChange fnTextBuilderAddAppendsPartWrong)

/-- 'zzlaws_pkg_awsapi_b1.FnTextBuilderJoinsParts': WHATEVER THE INPUT: true; the input reads as it did. -/
def fnTextBuilderJoinsPartsSpec : ChangeSpec := { name := "fnTextBuilderJoinsParts", fn := fun _ => fun
  | [d] => { results := [.lit (.bool true)], args := [d] }
  | _ => none }
def fnTextBuilderJoinsPartsRow : OpenClaim := { program := "qxb6605252a", sum := "2eadb033315ce2330c6670a26d784e695b67edd68ead8c657cd9b8190f8fea4a", func := "example.com/vouchsafe/vouchsafe/zzlaws_pkg_awsapi_b1.FnTextBuilderJoinsParts", spec := "fnTextBuilderJoinsParts", apart := false }
def FnTextBuilderJoinsPartsSaid : Prop := fnTextBuilderJoinsPartsRow.holds Try.pinned (OpenSpec.ofChange fnTextBuilderJoinsPartsSpec)

/-- ITS FALSE NEIGHBOUR: 'it returns false'. Refute it at one input. -/
def fnTextBuilderJoinsPartsWrong : ChangeSpec := { name := "fnTextBuilderJoinsParts", fn := fun _ => fun
  | [d] => { results := [.lit (.bool false)], args := [d] }
  | _ => none }
def FnTextBuilderJoinsPartsWrongFalsely : Prop := fnTextBuilderJoinsPartsRow.holds Try.pinned (OpenSpec.ofChange fnTextBuilderJoinsPartsWrong)

/-- 'zzlaws_pkg_awsapi_b1.FnSkipToFirstOccurrence': WHATEVER THE INPUT: true; the input reads as it did. -/
def fnSkipToFirstOccurrenceSpec : ChangeSpec := { name := "fnSkipToFirstOccurrence", fn := fun _ => fun
  | [d1, d2, d3] => { results := [.lit (.bool true)], args := [d1, d2, d3] }
  | _ => none }
def fnSkipToFirstOccurrenceRow : OpenClaim := { program := "qxb6605252a", sum := "2eadb033315ce2330c6670a26d784e695b67edd68ead8c657cd9b8190f8fea4a", func := "example.com/vouchsafe/vouchsafe/zzlaws_pkg_awsapi_b1.FnSkipToFirstOccurrence", spec := "fnSkipToFirstOccurrence", inPlace := ["internal/bytealg.IndexByteString", "internal/bytealg.IndexString"], named := ["internal/bytealg.MaxLen"], apart := false }
def FnSkipToFirstOccurrenceSaid : Prop := fnSkipToFirstOccurrenceRow.holds Try.pinned (OpenSpec.ofChange fnSkipToFirstOccurrenceSpec)

/-- ITS FALSE NEIGHBOUR: 'it returns false'. Refute it at one input. -/
def fnSkipToFirstOccurrenceWrong : ChangeSpec := { name := "fnSkipToFirstOccurrence", fn := fun _ => fun
  | [d1, d2, d3] => { results := [.lit (.bool false)], args := [d1, d2, d3] }
  | _ => none }
def FnSkipToFirstOccurrenceWrongFalsely : Prop := fnSkipToFirstOccurrenceRow.holds Try.pinned (OpenSpec.ofChange fnSkipToFirstOccurrenceWrong)

end Rows
end Go.Proofs.Qxb6605252a
