/-
  No cell of these rows narrows 'for every input' (looked for: loops, veiled, ifaces, maps, wideKeys, modest, calm, conditions, laid).
  DERIVED. THE GIVEN ROWS OF THIS SEAT. 3 by the template 'for every input the law returns true; each argument reads behind the call as it read before'; 0 by the template 'total and deterministic' (their statements: Qxb6603782aTotals.lean).
  GIVEN WITH THE SEED: the statements are not yours to turn. If you find one false, say at which input.
  Laid BY PROGRAM, IN A SANDBOX (cutbox-rows.mjs): the forced cells as the released guide's own fill.sh prints them over the translation ef9269e74d9945d7… (all of the seat's roots in one cut). By AI agents, Wed Nov 11 2026. No macro, syntax, notation, axiom, sorry.
-/
import Derived.Test.Qxb6603782aChecked
import GoSem.Claim
import GoSem.ClaimJoined
import GoSem.ClaimMapViews
import Derived.JoinedTies
import Derived.KernelRfl
namespace Go.Proofs.Qxb6603782a
/- THE CELL 'sum', in the pinned program and in every row, IS THE sha256 OF THE DUMP (.gsa) THAT Qxb6603782aProg.lean LOADS. Nothing in Lean hashes anything: it is a label: what it is worth is what the hold of that sum in a sandbox is worth. -/
noncomputable def Try.pinned : Pinned := { name := "qxb6603782a", sum := "ef9269e74d9945d7f38ca36efa47580ee92ccdcd9ff473a765a8987d72c8553e", checked := Try.checked }
namespace Rows
def none {H : Type} : Left H := { results := [], args := [] }

/-- 'zzlaws_internal_transport_b1.FnPostLengthMatchesTopDownModel': WHATEVER THE INPUT: true; the input reads as it did. -/
def fnPostLengthMatchesTopDownModelSpec : ChangeSpec := { name := "fnPostLengthMatchesTopDownModel", fn := fun _ => fun
  | [d] => { results := [.lit (.bool true)], args := [d] }
  | _ => none }
def fnPostLengthMatchesTopDownModelRow : OpenClaim := { program := "qxb6603782a", sum := "ef9269e74d9945d7f38ca36efa47580ee92ccdcd9ff473a765a8987d72c8553e", func := "example.com/quorumtree/quorumtree/zzlaws_internal_transport_b1.FnPostLengthMatchesTopDownModel", spec := "fnPostLengthMatchesTopDownModel", apart := false }
def FnPostLengthMatchesTopDownModelSaid : Prop := fnPostLengthMatchesTopDownModelRow.holds Try.pinned (OpenSpec.ofChange fnPostLengthMatchesTopDownModelSpec)

/-- ITS FALSE NEIGHBOUR: 'it returns false'. Refute it at one input. -/
def fnPostLengthMatchesTopDownModelWrong : ChangeSpec := { name := "fnPostLengthMatchesTopDownModel", fn := fun _ => fun
  | [d] => { results := [.lit (.bool false)], args := [d] }
  | _ => none }
def FnPostLengthMatchesTopDownModelWrongFalsely : Prop := fnPostLengthMatchesTopDownModelRow.holds Try.pinned (OpenSpec.ofChange fnPostLengthMatchesTopDownModelWrong)

/-- 'zzlaws_internal_transport_b1.FnPostLengthBatchesPartitionMaximally': WHATEVER THE INPUT: true; the input reads as it did. -/
def fnPostLengthBatchesPartitionMaximallySpec : ChangeSpec := { name := "fnPostLengthBatchesPartitionMaximally", fn := fun _ => fun
  | [d] => { results := [.lit (.bool true)], args := [d] }
  | _ => none }
def fnPostLengthBatchesPartitionMaximallyRow : OpenClaim := { program := "qxb6603782a", sum := "ef9269e74d9945d7f38ca36efa47580ee92ccdcd9ff473a765a8987d72c8553e", func := "example.com/quorumtree/quorumtree/zzlaws_internal_transport_b1.FnPostLengthBatchesPartitionMaximally", spec := "fnPostLengthBatchesPartitionMaximally", apart := false }
def FnPostLengthBatchesPartitionMaximallySaid : Prop := fnPostLengthBatchesPartitionMaximallyRow.holds Try.pinned (OpenSpec.ofChange fnPostLengthBatchesPartitionMaximallySpec)

/-- ITS FALSE NEIGHBOUR: 'it returns false'. Refute it at one input. -/
def fnPostLengthBatchesPartitionMaximallyWrong : ChangeSpec := { name := "fnPostLengthBatchesPartitionMaximally", fn := fun _ => fun
  | [d] => { results := [.lit (.bool false)], args := [d] }
  | _ => none }
def FnPostLengthBatchesPartitionMaximallyWrongFalsely : Prop := fnPostLengthBatchesPartitionMaximallyRow.holds Try.pinned (OpenSpec.ofChange fnPostLengthBatchesPartitionMaximallyWrong)

/-- 'zzlaws_internal_transport_b1.FnFrameByteReadsBackThenFailsForGood': WHATEVER THE INPUT: true; the input reads as it did. -/
def fnFrameByteReadsBackThenFailsForGoodSpec : ChangeSpec := { name := "fnFrameByteReadsBackThenFailsForGood", fn := fun _ => fun
  | [d1, d2, d3] => { results := [.lit (.bool true)], args := [d1, d2, d3] }
  | _ => none }
def fnFrameByteReadsBackThenFailsForGoodRow : OpenClaim := { program := "qxb6603782a", sum := "ef9269e74d9945d7f38ca36efa47580ee92ccdcd9ff473a765a8987d72c8553e", func := "example.com/quorumtree/quorumtree/zzlaws_internal_transport_b1.FnFrameByteReadsBackThenFailsForGood", spec := "fnFrameByteReadsBackThenFailsForGood", apart := false }
def FnFrameByteReadsBackThenFailsForGoodSaid : Prop := fnFrameByteReadsBackThenFailsForGoodRow.holds Try.pinned (OpenSpec.ofChange fnFrameByteReadsBackThenFailsForGoodSpec)

/-- ITS FALSE NEIGHBOUR: 'it returns false'. Refute it at one input. -/
def fnFrameByteReadsBackThenFailsForGoodWrong : ChangeSpec := { name := "fnFrameByteReadsBackThenFailsForGood", fn := fun _ => fun
  | [d1, d2, d3] => { results := [.lit (.bool false)], args := [d1, d2, d3] }
  | _ => none }
def FnFrameByteReadsBackThenFailsForGoodWrongFalsely : Prop := fnFrameByteReadsBackThenFailsForGoodRow.holds Try.pinned (OpenSpec.ofChange fnFrameByteReadsBackThenFailsForGoodWrong)

end Rows
end Go.Proofs.Qxb6603782a
