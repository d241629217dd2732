/-
  No cell of these rows narrows 'for every input' (looked for: loops, veiled, ifaces, maps, wideKeys, modest, calm, conditions, laid).
  DERIVED. THE GIVEN ROWS OF THIS SEAT. 3 by the template 'for every input the law returns true; each argument reads behind the call as it read before'; 0 by the template 'total and deterministic' (their statements: Qxb6602791aTotals.lean).
  GIVEN WITH THE SEED: the statements are not yours to turn. If you find one false, say at which input.
  Laid BY PROGRAM, IN A SANDBOX (cutbox-rows.mjs): the forced cells as the released guide's own fill.sh prints them over the translation 5504138240801038… (all of the seat's roots in one cut). By AI agents, Wed Nov 11 2026. No macro, syntax, notation, axiom, sorry.
-/
import Derived.Test.Qxb6602791aChecked
import GoSem.Claim
import GoSem.ClaimJoined
import GoSem.ClaimMapViews
import Derived.JoinedTies
import Derived.KernelRfl
namespace Go.Proofs.Qxb6602791a
/- THE CELL 'sum', in the pinned program and in every row, IS THE sha256 OF THE DUMP (.gsa) THAT Qxb6602791aProg.lean LOADS. Nothing in Lean hashes anything: it is a label: what it is worth is what the hold of that sum in a sandbox is worth. -/
noncomputable def Try.pinned : Pinned := { name := "qxb6602791a", sum := "55041382408010383ce0cd009bab7ff62a035a4cd3301273920027c72cd5d08c", checked := Try.checked }
namespace Rows
def none {H : Type} : Left H := { results := [], args := [] }

/-- 'zzlaws_root_b1.FnCursorAtMatchesLatestRevision': WHATEVER THE INPUT: true; the input reads as it did. -/
def fnCursorAtMatchesLatestRevisionSpec : ChangeSpec := { name := "fnCursorAtMatchesLatestRevision", fn := fun _ => fun
  | [d1, d2, d3, d4, d5] => { results := [.lit (.bool true)], args := [d1, d2, d3, d4, d5] }
  | _ => none }
def fnCursorAtMatchesLatestRevisionRow : OpenClaim := { program := "qxb6602791a", sum := "55041382408010383ce0cd009bab7ff62a035a4cd3301273920027c72cd5d08c", func := "example.com/vestline/vestline/zzlaws_root_b1.FnCursorAtMatchesLatestRevision", spec := "fnCursorAtMatchesLatestRevision", apart := false }
def FnCursorAtMatchesLatestRevisionSaid : Prop := fnCursorAtMatchesLatestRevisionRow.holds Try.pinned (OpenSpec.ofChange fnCursorAtMatchesLatestRevisionSpec)

/-- ITS FALSE NEIGHBOUR: 'it returns false'. Refute it at one input. -/
def fnCursorAtMatchesLatestRevisionWrong : ChangeSpec := { name := "fnCursorAtMatchesLatestRevision", fn := fun _ => fun
  | [d1, d2, d3, d4, d5] => { results := [.lit (.bool false)], args := [d1, d2, d3, d4, d5] }
  | _ => none }
def FnCursorAtMatchesLatestRevisionWrongFalsely : Prop := fnCursorAtMatchesLatestRevisionRow.holds Try.pinned (OpenSpec.ofChange fnCursorAtMatchesLatestRevisionWrong)

/-- 'zzlaws_root_b1.FnCursorScriptAgreesWithLookup': WHATEVER THE INPUT: true; the input reads as it did. -/
def fnCursorScriptAgreesWithLookupSpec : ChangeSpec := { name := "fnCursorScriptAgreesWithLookup", fn := fun _ => fun
  | [d1, d2, d3, d4] => { results := [.lit (.bool true)], args := [d1, d2, d3, d4] }
  | _ => none }
def fnCursorScriptAgreesWithLookupRow : OpenClaim := { program := "qxb6602791a", sum := "55041382408010383ce0cd009bab7ff62a035a4cd3301273920027c72cd5d08c", func := "example.com/vestline/vestline/zzlaws_root_b1.FnCursorScriptAgreesWithLookup", spec := "fnCursorScriptAgreesWithLookup", apart := false }
def FnCursorScriptAgreesWithLookupSaid : Prop := fnCursorScriptAgreesWithLookupRow.holds Try.pinned (OpenSpec.ofChange fnCursorScriptAgreesWithLookupSpec)

/-- ITS FALSE NEIGHBOUR: 'it returns false'. Refute it at one input. -/
def fnCursorScriptAgreesWithLookupWrong : ChangeSpec := { name := "fnCursorScriptAgreesWithLookup", fn := fun _ => fun
  | [d1, d2, d3, d4] => { results := [.lit (.bool false)], args := [d1, d2, d3, d4] }
  | _ => none }
def FnCursorScriptAgreesWithLookupWrongFalsely : Prop := fnCursorScriptAgreesWithLookupRow.holds Try.pinned (OpenSpec.ofChange fnCursorScriptAgreesWithLookupWrong)

/-- 'zzlaws_root_b1.FnLastRevisedIsWhereTheEstimateSettles': WHATEVER THE INPUT: true; the input reads as it did. -/
def fnLastRevisedIsWhereTheEstimateSettlesSpec : ChangeSpec := { name := "fnLastRevisedIsWhereTheEstimateSettles", fn := fun _ => fun
  | [d1, d2, d3, d4] => { results := [.lit (.bool true)], args := [d1, d2, d3, d4] }
  | _ => none }
def fnLastRevisedIsWhereTheEstimateSettlesRow : OpenClaim := { program := "qxb6602791a", sum := "55041382408010383ce0cd009bab7ff62a035a4cd3301273920027c72cd5d08c", func := "example.com/vestline/vestline/zzlaws_root_b1.FnLastRevisedIsWhereTheEstimateSettles", spec := "fnLastRevisedIsWhereTheEstimateSettles", apart := false }
def FnLastRevisedIsWhereTheEstimateSettlesSaid : Prop := fnLastRevisedIsWhereTheEstimateSettlesRow.holds Try.pinned (OpenSpec.ofChange fnLastRevisedIsWhereTheEstimateSettlesSpec)

/-- ITS FALSE NEIGHBOUR: 'it returns false'. Refute it at one input. -/
def fnLastRevisedIsWhereTheEstimateSettlesWrong : ChangeSpec := { name := "fnLastRevisedIsWhereTheEstimateSettles", fn := fun _ => fun
  | [d1, d2, d3, d4] => { results := [.lit (.bool false)], args := [d1, d2, d3, d4] }
  | _ => none }
def FnLastRevisedIsWhereTheEstimateSettlesWrongFalsely : Prop := fnLastRevisedIsWhereTheEstimateSettlesRow.holds Try.pinned (OpenSpec.ofChange fnLastRevisedIsWhereTheEstimateSettlesWrong)

end Rows
end Go.Proofs.Qxb6602791a
