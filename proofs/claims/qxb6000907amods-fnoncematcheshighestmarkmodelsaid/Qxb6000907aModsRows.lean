/-
  No cell of these rows narrows 'for every input' (looked for: loops, veiled, ifaces, maps, wideKeys, modest, calm, conditions, laid).
  DERIVED. THE GIVEN ROWS OF THIS SEAT. 8 by the template 'for every input the law returns true; each argument reads behind the call as it read before'; 0 by the template 'total and deterministic' (their statements: Qxb6000907aModsTotals.lean).
  GIVEN WITH THE SEED: the statements are not yours to turn. If you find one false, say at which input.
  Laid BY PROGRAM, IN A SANDBOX (cutbox-rows.mjs): the forced cells as the released guide's own fill.sh prints them over the translation 544667f95f1a5a5d… (all of the seat's roots in one cut). By AI agents, Wed Nov 11 2026. No macro, syntax, notation, axiom, sorry.
-/
import Derived.Test.Qxb6000907aModsChecked
import GoSem.Claim
import GoSem.ClaimJoined
import GoSem.ClaimMapViews
import Derived.JoinedTies
import Derived.KernelRfl
namespace Go.Proofs.Qxb6000907aMods
/- THE CELL 'sum', in the pinned program and in every row, IS THE sha256 OF THE DUMP (.gsa) THAT Qxb6000907aModsProg.lean LOADS. Nothing in Lean hashes anything: it is a label: what it is worth is what the hold of that sum in a sandbox is worth. -/
noncomputable def Trym.pinned : Pinned := { name := "qxb6000907amods", sum := "544667f95f1a5a5dcf57371ebc49866ba36de8f68ea6001bb9b66ac2a3bed82b", checked := Trym.checked }
namespace Rows
def none {H : Type} : Left H := { results := [], args := [] }

/-- 'zzlaws_internal_protocol_b1.FnCoversPartialOrder': WHATEVER THE INPUT: true; the input reads as it did. -/
def fnCoversPartialOrderSpec : ChangeSpec := { name := "fnCoversPartialOrder", fn := fun _ => fun
  | [d1, d2, d3] => { results := [.lit (.bool true)], args := [d1, d2, d3] }
  | _ => none }
def fnCoversPartialOrderRow : OpenClaim := { program := "qxb6000907amods", sum := "544667f95f1a5a5dcf57371ebc49866ba36de8f68ea6001bb9b66ac2a3bed82b", func := "example.com/evenkeel/evenkeel/zzlaws_internal_protocol_b1.FnCoversPartialOrder", spec := "fnCoversPartialOrder", make := .lifted ["publicsums"], apart := false }
def FnCoversPartialOrderSaid : Prop := fnCoversPartialOrderRow.holds Trym.pinned (OpenSpec.ofChange fnCoversPartialOrderSpec)

/-- ITS FALSE NEIGHBOUR: 'it returns false'. Refute it at one input. -/
def fnCoversPartialOrderWrong : ChangeSpec := { name := "fnCoversPartialOrder", fn := fun _ => fun
  | [d1, d2, d3] => { results := [.lit (.bool false)], args := [d1, d2, d3] }
  | _ => none }
def FnCoversPartialOrderWrongFalsely : Prop := fnCoversPartialOrderRow.holds Trym.pinned (OpenSpec.ofChange fnCoversPartialOrderWrong)

/-- 'zzlaws_internal_protocol_b1.FnCoversJoinIsLeastUpperBound': WHATEVER THE INPUT: true; the input reads as it did. -/
def fnCoversJoinIsLeastUpperBoundSpec : ChangeSpec := { name := "fnCoversJoinIsLeastUpperBound", fn := fun _ => fun
  | [d1, d2, d3] => { results := [.lit (.bool true)], args := [d1, d2, d3] }
  | _ => none }
def fnCoversJoinIsLeastUpperBoundRow : OpenClaim := { program := "qxb6000907amods", sum := "544667f95f1a5a5dcf57371ebc49866ba36de8f68ea6001bb9b66ac2a3bed82b", func := "example.com/evenkeel/evenkeel/zzlaws_internal_protocol_b1.FnCoversJoinIsLeastUpperBound", spec := "fnCoversJoinIsLeastUpperBound", make := .lifted ["publicsums"], apart := false }
def FnCoversJoinIsLeastUpperBoundSaid : Prop := fnCoversJoinIsLeastUpperBoundRow.holds Trym.pinned (OpenSpec.ofChange fnCoversJoinIsLeastUpperBoundSpec)

/-- ITS FALSE NEIGHBOUR: 'it returns false'. Refute it at one input. -/
def fnCoversJoinIsLeastUpperBoundWrong : ChangeSpec := { name := "fnCoversJoinIsLeastUpperBound", fn := fun _ => fun
  | [d1, d2, d3] => { results := [.lit (.bool false)], args := [d1, d2, d3] }
  | _ => none }
def FnCoversJoinIsLeastUpperBoundWrongFalsely : Prop := fnCoversJoinIsLeastUpperBoundRow.holds Trym.pinned (OpenSpec.ofChange fnCoversJoinIsLeastUpperBoundWrong)

/-- 'zzlaws_internal_protocol_b1.FnOnceMatchesHighestMarkModel': WHATEVER THE INPUT: true; the input reads as it did. -/
def fnOnceMatchesHighestMarkModelSpec : ChangeSpec := { name := "fnOnceMatchesHighestMarkModel", fn := fun _ => fun
  | [d1, d2] => { results := [.lit (.bool true)], args := [d1, d2] }
  | _ => none }
def fnOnceMatchesHighestMarkModelRow : OpenClaim := { program := "qxb6000907amods", sum := "544667f95f1a5a5dcf57371ebc49866ba36de8f68ea6001bb9b66ac2a3bed82b", func := "example.com/evenkeel/evenkeel/zzlaws_internal_protocol_b1.FnOnceMatchesHighestMarkModel", spec := "fnOnceMatchesHighestMarkModel", make := .lifted ["publicsums"], apart := false }
def FnOnceMatchesHighestMarkModelSaid : Prop := fnOnceMatchesHighestMarkModelRow.holds Trym.pinned (OpenSpec.ofChange fnOnceMatchesHighestMarkModelSpec)

/-- ITS FALSE NEIGHBOUR: 'it returns false'. Refute it at one input. -/
def fnOnceMatchesHighestMarkModelWrong : ChangeSpec := { name := "fnOnceMatchesHighestMarkModel", fn := fun _ => fun
  | [d1, d2] => { results := [.lit (.bool false)], args := [d1, d2] }
  | _ => none }
def FnOnceMatchesHighestMarkModelWrongFalsely : Prop := fnOnceMatchesHighestMarkModelRow.holds Trym.pinned (OpenSpec.ofChange fnOnceMatchesHighestMarkModelWrong)

/-- 'zzlaws_internal_protocol_b1.FnOnceAnswersOncePerMark': WHATEVER THE INPUT: true; the input reads as it did. -/
def fnOnceAnswersOncePerMarkSpec : ChangeSpec := { name := "fnOnceAnswersOncePerMark", fn := fun _ => fun
  | [d1, d2, d3, d4, d5] => { results := [.lit (.bool true)], args := [d1, d2, d3, d4, d5] }
  | _ => none }
def fnOnceAnswersOncePerMarkRow : OpenClaim := { program := "qxb6000907amods", sum := "544667f95f1a5a5dcf57371ebc49866ba36de8f68ea6001bb9b66ac2a3bed82b", func := "example.com/evenkeel/evenkeel/zzlaws_internal_protocol_b1.FnOnceAnswersOncePerMark", spec := "fnOnceAnswersOncePerMark", make := .lifted ["publicsums"], apart := false }
def FnOnceAnswersOncePerMarkSaid : Prop := fnOnceAnswersOncePerMarkRow.holds Trym.pinned (OpenSpec.ofChange fnOnceAnswersOncePerMarkSpec)

/-- ITS FALSE NEIGHBOUR: 'it returns false'. Refute it at one input. -/
def fnOnceAnswersOncePerMarkWrong : ChangeSpec := { name := "fnOnceAnswersOncePerMark", fn := fun _ => fun
  | [d1, d2, d3, d4, d5] => { results := [.lit (.bool false)], args := [d1, d2, d3, d4, d5] }
  | _ => none }
def FnOnceAnswersOncePerMarkWrongFalsely : Prop := fnOnceAnswersOncePerMarkRow.holds Trym.pinned (OpenSpec.ofChange fnOnceAnswersOncePerMarkWrong)

/-- 'zzlaws_internal_protocol_b1.FnOnceReplicasIndependent': WHATEVER THE INPUT: true; the input reads as it did. -/
def fnOnceReplicasIndependentSpec : ChangeSpec := { name := "fnOnceReplicasIndependent", fn := fun _ => fun
  | [d1, d2, d3, d4] => { results := [.lit (.bool true)], args := [d1, d2, d3, d4] }
  | _ => none }
def fnOnceReplicasIndependentRow : OpenClaim := { program := "qxb6000907amods", sum := "544667f95f1a5a5dcf57371ebc49866ba36de8f68ea6001bb9b66ac2a3bed82b", func := "example.com/evenkeel/evenkeel/zzlaws_internal_protocol_b1.FnOnceReplicasIndependent", spec := "fnOnceReplicasIndependent", make := .lifted ["publicsums"], apart := false }
def FnOnceReplicasIndependentSaid : Prop := fnOnceReplicasIndependentRow.holds Trym.pinned (OpenSpec.ofChange fnOnceReplicasIndependentSpec)

/-- ITS FALSE NEIGHBOUR: 'it returns false'. Refute it at one input. -/
def fnOnceReplicasIndependentWrong : ChangeSpec := { name := "fnOnceReplicasIndependent", fn := fun _ => fun
  | [d1, d2, d3, d4] => { results := [.lit (.bool false)], args := [d1, d2, d3, d4] }
  | _ => none }
def FnOnceReplicasIndependentWrongFalsely : Prop := fnOnceReplicasIndependentRow.holds Trym.pinned (OpenSpec.ofChange fnOnceReplicasIndependentWrong)

/-- 'zzlaws_internal_protocol_b1.FnTakeSplitsThenJoins': WHATEVER THE INPUT: true; the input reads as it did. -/
def fnTakeSplitsThenJoinsSpec : ChangeSpec := { name := "fnTakeSplitsThenJoins", fn := fun _ => fun
  | [d1, d2] => { results := [.lit (.bool true)], args := [d1, d2] }
  | _ => none }
def fnTakeSplitsThenJoinsRow : OpenClaim := { program := "qxb6000907amods", sum := "544667f95f1a5a5dcf57371ebc49866ba36de8f68ea6001bb9b66ac2a3bed82b", func := "example.com/evenkeel/evenkeel/zzlaws_internal_protocol_b1.FnTakeSplitsThenJoins", spec := "fnTakeSplitsThenJoins", make := .lifted ["publicsums"], apart := false }
def FnTakeSplitsThenJoinsSaid : Prop := fnTakeSplitsThenJoinsRow.holds Trym.pinned (OpenSpec.ofChange fnTakeSplitsThenJoinsSpec)

/-- ITS FALSE NEIGHBOUR: 'it returns false'. Refute it at one input. -/
def fnTakeSplitsThenJoinsWrong : ChangeSpec := { name := "fnTakeSplitsThenJoins", fn := fun _ => fun
  | [d1, d2] => { results := [.lit (.bool false)], args := [d1, d2] }
  | _ => none }
def FnTakeSplitsThenJoinsWrongFalsely : Prop := fnTakeSplitsThenJoinsRow.holds Trym.pinned (OpenSpec.ofChange fnTakeSplitsThenJoinsWrong)

/-- 'zzlaws_internal_protocol_b1.FnTakeRefusalConsumesNothingAndSticks': WHATEVER THE INPUT: true; the input reads as it did. -/
def fnTakeRefusalConsumesNothingAndSticksSpec : ChangeSpec := { name := "fnTakeRefusalConsumesNothingAndSticks", fn := fun _ => fun
  | [d1, d2, d3, d4] => { results := [.lit (.bool true)], args := [d1, d2, d3, d4] }
  | _ => none }
def fnTakeRefusalConsumesNothingAndSticksRow : OpenClaim := { program := "qxb6000907amods", sum := "544667f95f1a5a5dcf57371ebc49866ba36de8f68ea6001bb9b66ac2a3bed82b", func := "example.com/evenkeel/evenkeel/zzlaws_internal_protocol_b1.FnTakeRefusalConsumesNothingAndSticks", spec := "fnTakeRefusalConsumesNothingAndSticks", make := .lifted ["publicsums"], apart := false }
def FnTakeRefusalConsumesNothingAndSticksSaid : Prop := fnTakeRefusalConsumesNothingAndSticksRow.holds Trym.pinned (OpenSpec.ofChange fnTakeRefusalConsumesNothingAndSticksSpec)

/-- ITS FALSE NEIGHBOUR: 'it returns false'. Refute it at one input. -/
def fnTakeRefusalConsumesNothingAndSticksWrong : ChangeSpec := { name := "fnTakeRefusalConsumesNothingAndSticks", fn := fun _ => fun
  | [d1, d2, d3, d4] => { results := [.lit (.bool false)], args := [d1, d2, d3, d4] }
  | _ => none }
def FnTakeRefusalConsumesNothingAndSticksWrongFalsely : Prop := fnTakeRefusalConsumesNothingAndSticksRow.holds Trym.pinned (OpenSpec.ofChange fnTakeRefusalConsumesNothingAndSticksWrong)

/-- 'zzlaws_internal_protocol_b1.FnTakeComposes': WHATEVER THE INPUT: true; the input reads as it did. -/
def fnTakeComposesSpec : ChangeSpec := { name := "fnTakeComposes", fn := fun _ => fun
  | [d1, d2, d3, d4] => { results := [.lit (.bool true)], args := [d1, d2, d3, d4] }
  | _ => none }
def fnTakeComposesRow : OpenClaim := { program := "qxb6000907amods", sum := "544667f95f1a5a5dcf57371ebc49866ba36de8f68ea6001bb9b66ac2a3bed82b", func := "example.com/evenkeel/evenkeel/zzlaws_internal_protocol_b1.FnTakeComposes", spec := "fnTakeComposes", make := .lifted ["publicsums"], apart := false }
def FnTakeComposesSaid : Prop := fnTakeComposesRow.holds Trym.pinned (OpenSpec.ofChange fnTakeComposesSpec)

/-- ITS FALSE NEIGHBOUR: 'it returns false'. Refute it at one input. -/
def fnTakeComposesWrong : ChangeSpec := { name := "fnTakeComposes", fn := fun _ => fun
  | [d1, d2, d3, d4] => { results := [.lit (.bool false)], args := [d1, d2, d3, d4] }
  | _ => none }
def FnTakeComposesWrongFalsely : Prop := fnTakeComposesRow.holds Trym.pinned (OpenSpec.ofChange fnTakeComposesWrong)

end Rows
end Go.Proofs.Qxb6000907aMods
