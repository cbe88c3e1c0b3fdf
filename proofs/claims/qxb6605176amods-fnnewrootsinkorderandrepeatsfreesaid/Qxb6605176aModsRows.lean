/-
  No cell of these rows narrows 'for every input' (looked for: loops, veiled, ifaces, maps, wideKeys, modest, calm, conditions, laid).
  DERIVED. THE GIVEN ROWS OF THIS SEAT. 5 by the template 'for every input the law returns true; each argument reads behind the call as it read before'; 0 by the template 'total and deterministic' (their statements: Qxb6605176aModsTotals.lean).
  GIVEN WITH THE SEED: the statements are not yours to turn. If you find one false, say at which input.
  Laid BY PROGRAM, IN A SANDBOX (cutbox-rows.mjs): the forced cells as the released guide's own fill.sh prints them over the translation 38d6bdd7cbc6e7c7… (all of the seat's roots in one cut). By AI agents, Wed Nov 11 2026. No macro, syntax, notation, axiom, sorry.
-/
import Derived.Test.Qxb6605176aModsChecked
import GoSem.Claim
import GoSem.ClaimJoined
import GoSem.ClaimMapViews
import Derived.JoinedTies
import Derived.KernelRfl
namespace Go.Proofs.Qxb6605176aMods
/- THE CELL 'sum', in the pinned program and in every row, IS THE sha256 OF THE DUMP (.gsa) THAT Qxb6605176aModsProg.lean LOADS. Nothing in Lean hashes anything: it is a label: what it is worth is what the hold of that sum in a sandbox is worth. -/
noncomputable def Trym.pinned : Pinned := { name := "qxb6605176amods", sum := "38d6bdd7cbc6e7c734e31305967e3fa7dd9f97fe291660be0f1e435213babd1b", checked := Trym.checked }
namespace Rows
def none {H : Type} : Left H := { results := [], args := [] }

/-- 'zzlaws_internal_replication_b1.FnRecordPropertyReadsBackToHolder': WHATEVER THE INPUT: true; the input reads as it did. -/
def fnRecordPropertyReadsBackToHolderSpec : ChangeSpec := { name := "fnRecordPropertyReadsBackToHolder", fn := fun _ => fun
  | [d] => { results := [.lit (.bool true)], args := [d] }
  | _ => none }
def fnRecordPropertyReadsBackToHolderRow : OpenClaim := { program := "qxb6605176amods", sum := "38d6bdd7cbc6e7c734e31305967e3fa7dd9f97fe291660be0f1e435213babd1b", func := "example.com/tidemark/tidemark/zzlaws_internal_replication_b1.FnRecordPropertyReadsBackToHolder", spec := "fnRecordPropertyReadsBackToHolder", inPlace := ["internal/abi.NoEscape"], make := .lifted ["publicsums"], apart := false }
def FnRecordPropertyReadsBackToHolderSaid : Prop := fnRecordPropertyReadsBackToHolderRow.holds Trym.pinned (OpenSpec.ofChange fnRecordPropertyReadsBackToHolderSpec)

/-- ITS FALSE NEIGHBOUR: 'it returns false'. Refute it at one input. -/
def fnRecordPropertyReadsBackToHolderWrong : ChangeSpec := { name := "fnRecordPropertyReadsBackToHolder", fn := fun _ => fun
  | [d] => { results := [.lit (.bool false)], args := [d] }
  | _ => none }
def FnRecordPropertyReadsBackToHolderWrongFalsely : Prop := fnRecordPropertyReadsBackToHolderRow.holds Trym.pinned (OpenSpec.ofChange fnRecordPropertyReadsBackToHolderWrong)

/-- 'zzlaws_internal_replication_b1.FnRecordPropertyOneToOneAndWellFormed': WHATEVER THE INPUT: true; the input reads as it did. -/
def fnRecordPropertyOneToOneAndWellFormedSpec : ChangeSpec := { name := "fnRecordPropertyOneToOneAndWellFormed", fn := fun _ => fun
  | [d1, d2] => { results := [.lit (.bool true)], args := [d1, d2] }
  | _ => none }
def fnRecordPropertyOneToOneAndWellFormedRow : OpenClaim := { program := "qxb6605176amods", sum := "38d6bdd7cbc6e7c734e31305967e3fa7dd9f97fe291660be0f1e435213babd1b", func := "example.com/tidemark/tidemark/zzlaws_internal_replication_b1.FnRecordPropertyOneToOneAndWellFormed", spec := "fnRecordPropertyOneToOneAndWellFormed", inPlace := ["internal/abi.NoEscape"], make := .lifted ["publicsums"], apart := false }
def FnRecordPropertyOneToOneAndWellFormedSaid : Prop := fnRecordPropertyOneToOneAndWellFormedRow.holds Trym.pinned (OpenSpec.ofChange fnRecordPropertyOneToOneAndWellFormedSpec)

/-- ITS FALSE NEIGHBOUR: 'it returns false'. Refute it at one input. -/
def fnRecordPropertyOneToOneAndWellFormedWrong : ChangeSpec := { name := "fnRecordPropertyOneToOneAndWellFormed", fn := fun _ => fun
  | [d1, d2] => { results := [.lit (.bool false)], args := [d1, d2] }
  | _ => none }
def FnRecordPropertyOneToOneAndWellFormedWrongFalsely : Prop := fnRecordPropertyOneToOneAndWellFormedRow.holds Trym.pinned (OpenSpec.ofChange fnRecordPropertyOneToOneAndWellFormedWrong)

/-- 'zzlaws_internal_replication_b1.FnRecordPropertyOfConcatenation': WHATEVER THE INPUT: true; the input reads as it did. -/
def fnRecordPropertyOfConcatenationSpec : ChangeSpec := { name := "fnRecordPropertyOfConcatenation", fn := fun _ => fun
  | [d1, d2] => { results := [.lit (.bool true)], args := [d1, d2] }
  | _ => none }
def fnRecordPropertyOfConcatenationRow : OpenClaim := { program := "qxb6605176amods", sum := "38d6bdd7cbc6e7c734e31305967e3fa7dd9f97fe291660be0f1e435213babd1b", func := "example.com/tidemark/tidemark/zzlaws_internal_replication_b1.FnRecordPropertyOfConcatenation", spec := "fnRecordPropertyOfConcatenation", inPlace := ["internal/abi.NoEscape"], make := .lifted ["publicsums"], apart := false }
def FnRecordPropertyOfConcatenationSaid : Prop := fnRecordPropertyOfConcatenationRow.holds Trym.pinned (OpenSpec.ofChange fnRecordPropertyOfConcatenationSpec)

/-- ITS FALSE NEIGHBOUR: 'it returns false'. Refute it at one input. -/
def fnRecordPropertyOfConcatenationWrong : ChangeSpec := { name := "fnRecordPropertyOfConcatenation", fn := fun _ => fun
  | [d1, d2] => { results := [.lit (.bool false)], args := [d1, d2] }
  | _ => none }
def FnRecordPropertyOfConcatenationWrongFalsely : Prop := fnRecordPropertyOfConcatenationRow.holds Trym.pinned (OpenSpec.ofChange fnRecordPropertyOfConcatenationWrong)

/-- 'zzlaws_internal_replication_b1.FnNewRootSinkExactly': WHATEVER THE INPUT: true; the input reads as it did. -/
def fnNewRootSinkExactlySpec : ChangeSpec := { name := "fnNewRootSinkExactly", fn := fun _ => fun
  | [d1, d2] => { results := [.lit (.bool true)], args := [d1, d2] }
  | _ => none }
def fnNewRootSinkExactlyRow : OpenClaim := { program := "qxb6605176amods", sum := "38d6bdd7cbc6e7c734e31305967e3fa7dd9f97fe291660be0f1e435213babd1b", func := "example.com/tidemark/tidemark/zzlaws_internal_replication_b1.FnNewRootSinkExactly", spec := "fnNewRootSinkExactly", make := .lifted ["publicsums"], apart := false }
def FnNewRootSinkExactlySaid : Prop := fnNewRootSinkExactlyRow.holds Trym.pinned (OpenSpec.ofChange fnNewRootSinkExactlySpec)

/-- ITS FALSE NEIGHBOUR: 'it returns false'. Refute it at one input. -/
def fnNewRootSinkExactlyWrong : ChangeSpec := { name := "fnNewRootSinkExactly", fn := fun _ => fun
  | [d1, d2] => { results := [.lit (.bool false)], args := [d1, d2] }
  | _ => none }
def FnNewRootSinkExactlyWrongFalsely : Prop := fnNewRootSinkExactlyRow.holds Trym.pinned (OpenSpec.ofChange fnNewRootSinkExactlyWrong)

/-- 'zzlaws_internal_replication_b1.FnNewRootSinkOrderAndRepeatsFree': WHATEVER THE INPUT: true; the input reads as it did. -/
def fnNewRootSinkOrderAndRepeatsFreeSpec : ChangeSpec := { name := "fnNewRootSinkOrderAndRepeatsFree", fn := fun _ => fun
  | [d1, d2] => { results := [.lit (.bool true)], args := [d1, d2] }
  | _ => none }
def fnNewRootSinkOrderAndRepeatsFreeRow : OpenClaim := { program := "qxb6605176amods", sum := "38d6bdd7cbc6e7c734e31305967e3fa7dd9f97fe291660be0f1e435213babd1b", func := "example.com/tidemark/tidemark/zzlaws_internal_replication_b1.FnNewRootSinkOrderAndRepeatsFree", spec := "fnNewRootSinkOrderAndRepeatsFree", make := .lifted ["publicsums"], apart := false }
def FnNewRootSinkOrderAndRepeatsFreeSaid : Prop := fnNewRootSinkOrderAndRepeatsFreeRow.holds Trym.pinned (OpenSpec.ofChange fnNewRootSinkOrderAndRepeatsFreeSpec)

/-- ITS FALSE NEIGHBOUR: 'it returns false'. Refute it at one input. -/
def fnNewRootSinkOrderAndRepeatsFreeWrong : ChangeSpec := { name := "fnNewRootSinkOrderAndRepeatsFree", fn := fun _ => fun
  | [d1, d2] => { results := [.lit (.bool false)], args := [d1, d2] }
  | _ => none }
def FnNewRootSinkOrderAndRepeatsFreeWrongFalsely : Prop := fnNewRootSinkOrderAndRepeatsFreeRow.holds Trym.pinned (OpenSpec.ofChange fnNewRootSinkOrderAndRepeatsFreeWrong)

end Rows
end Go.Proofs.Qxb6605176aMods
