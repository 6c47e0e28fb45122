/-
  No cell of these rows narrows 'for every input' (looked for: loops, veiled, ifaces, maps, wideKeys, modest, calm, conditions, laid).
  DERIVED. THE GIVEN ROWS OF THIS SEAT. 6 by the template 'for every input the law returns true; each argument reads behind the call as it read before'; 0 by the template 'total and deterministic' (their statements: Qxb6617010aTotals.lean).
  GIVEN WITH THE SEED: the statements are not yours to turn. If you find one false, say at which input.
  Laid BY PROGRAM, IN A SANDBOX (cutbox-rows.mjs): the forced cells as the released guide's own fill.sh prints them over the translation 61ad895ba0f66ccf… (all of the seat's roots in one cut). By AI agents, Wed Nov 11 2026. No macro, syntax, notation, axiom, sorry.
-/
import Derived.Test.Qxb6617010aChecked
import GoSem.Claim
import GoSem.ClaimJoined
import GoSem.ClaimMapViews
import Derived.JoinedTies
import Derived.KernelRfl
namespace Go.Proofs.Qxb6617010a
/- THE CELL 'sum', in the pinned program and in every row, IS THE sha256 OF THE DUMP (.gsa) THAT Qxb6617010aProg.lean LOADS. Nothing in Lean hashes anything: it is a label: what it is worth is what the hold of that sum in a sandbox is worth. -/
noncomputable def Try.pinned : Pinned := { name := "qxb6617010a", sum := "61ad895ba0f66ccfc437278b2dcfffbc03cfb862bde5973389f0e747dda31480", checked := Try.checked }
namespace Rows
def none {H : Type} : Left H := { results := [], args := [] }

/-- 'zzlaws_root_b1.FnCommittedIsTheLogUpToTheCommitIndex': WHATEVER THE INPUT: true; the input reads as it did. -/
def fnCommittedIsTheLogUpToTheCommitIndexSpec : ChangeSpec := { name := "fnCommittedIsTheLogUpToTheCommitIndex", fn := fun _ => fun
  | [d1, d2] => { results := [.lit (.bool true)], args := [d1, d2] }
  | _ => none }
def fnCommittedIsTheLogUpToTheCommitIndexRow : OpenClaim := { program := "qxb6617010a", sum := "61ad895ba0f66ccfc437278b2dcfffbc03cfb862bde5973389f0e747dda31480", func := "example.com/forewarn/forewarn/zzlaws_root_b1.FnCommittedIsTheLogUpToTheCommitIndex", spec := "fnCommittedIsTheLogUpToTheCommitIndex", apart := false }
def FnCommittedIsTheLogUpToTheCommitIndexSaid : Prop := fnCommittedIsTheLogUpToTheCommitIndexRow.holds Try.pinned (OpenSpec.ofChange fnCommittedIsTheLogUpToTheCommitIndexSpec)

/-- ITS FALSE NEIGHBOUR: 'it returns false'. Refute it at one input. -/
def fnCommittedIsTheLogUpToTheCommitIndexWrong : ChangeSpec := { name := "fnCommittedIsTheLogUpToTheCommitIndex", fn := fun _ => fun
  | [d1, d2] => { results := [.lit (.bool false)], args := [d1, d2] }
  | _ => none }
def FnCommittedIsTheLogUpToTheCommitIndexWrongFalsely : Prop := fnCommittedIsTheLogUpToTheCommitIndexRow.holds Try.pinned (OpenSpec.ofChange fnCommittedIsTheLogUpToTheCommitIndexWrong)

/-- 'zzlaws_root_b1.FnCommittedHandsOutACopy': WHATEVER THE INPUT: true; the input reads as it did. -/
def fnCommittedHandsOutACopySpec : ChangeSpec := { name := "fnCommittedHandsOutACopy", fn := fun _ => fun
  | [d1, d2] => { results := [.lit (.bool true)], args := [d1, d2] }
  | _ => none }
def fnCommittedHandsOutACopyRow : OpenClaim := { program := "qxb6617010a", sum := "61ad895ba0f66ccfc437278b2dcfffbc03cfb862bde5973389f0e747dda31480", func := "example.com/forewarn/forewarn/zzlaws_root_b1.FnCommittedHandsOutACopy", spec := "fnCommittedHandsOutACopy", apart := false }
def FnCommittedHandsOutACopySaid : Prop := fnCommittedHandsOutACopyRow.holds Try.pinned (OpenSpec.ofChange fnCommittedHandsOutACopySpec)

/-- ITS FALSE NEIGHBOUR: 'it returns false'. Refute it at one input. -/
def fnCommittedHandsOutACopyWrong : ChangeSpec := { name := "fnCommittedHandsOutACopy", fn := fun _ => fun
  | [d1, d2] => { results := [.lit (.bool false)], args := [d1, d2] }
  | _ => none }
def FnCommittedHandsOutACopyWrongFalsely : Prop := fnCommittedHandsOutACopyRow.holds Try.pinned (OpenSpec.ofChange fnCommittedHandsOutACopyWrong)

/-- 'zzlaws_root_b1.FnCompareLogRanksByLastTermThenLength': WHATEVER THE INPUT: true; the input reads as it did. -/
def fnCompareLogRanksByLastTermThenLengthSpec : ChangeSpec := { name := "fnCompareLogRanksByLastTermThenLength", fn := fun _ => fun
  | [d1, d2, d3] => { results := [.lit (.bool true)], args := [d1, d2, d3] }
  | _ => none }
def fnCompareLogRanksByLastTermThenLengthRow : OpenClaim := { program := "qxb6617010a", sum := "61ad895ba0f66ccfc437278b2dcfffbc03cfb862bde5973389f0e747dda31480", func := "example.com/forewarn/forewarn/zzlaws_root_b1.FnCompareLogRanksByLastTermThenLength", spec := "fnCompareLogRanksByLastTermThenLength", apart := false }
def FnCompareLogRanksByLastTermThenLengthSaid : Prop := fnCompareLogRanksByLastTermThenLengthRow.holds Try.pinned (OpenSpec.ofChange fnCompareLogRanksByLastTermThenLengthSpec)

/-- ITS FALSE NEIGHBOUR: 'it returns false'. Refute it at one input. -/
def fnCompareLogRanksByLastTermThenLengthWrong : ChangeSpec := { name := "fnCompareLogRanksByLastTermThenLength", fn := fun _ => fun
  | [d1, d2, d3] => { results := [.lit (.bool false)], args := [d1, d2, d3] }
  | _ => none }
def FnCompareLogRanksByLastTermThenLengthWrongFalsely : Prop := fnCompareLogRanksByLastTermThenLengthRow.holds Try.pinned (OpenSpec.ofChange fnCompareLogRanksByLastTermThenLengthWrong)

/-- 'zzlaws_root_b1.FnCompareLogNoQueryGainsWhenTheServerExtendsItsLog': WHATEVER THE INPUT: true; the input reads as it did. -/
def fnCompareLogNoQueryGainsWhenTheServerExtendsItsLogSpec : ChangeSpec := { name := "fnCompareLogNoQueryGainsWhenTheServerExtendsItsLog", fn := fun _ => fun
  | [d1, d2, d3, d4] => { results := [.lit (.bool true)], args := [d1, d2, d3, d4] }
  | _ => none }
def fnCompareLogNoQueryGainsWhenTheServerExtendsItsLogRow : OpenClaim := { program := "qxb6617010a", sum := "61ad895ba0f66ccfc437278b2dcfffbc03cfb862bde5973389f0e747dda31480", func := "example.com/forewarn/forewarn/zzlaws_root_b1.FnCompareLogNoQueryGainsWhenTheServerExtendsItsLog", spec := "fnCompareLogNoQueryGainsWhenTheServerExtendsItsLog", apart := false }
def FnCompareLogNoQueryGainsWhenTheServerExtendsItsLogSaid : Prop := fnCompareLogNoQueryGainsWhenTheServerExtendsItsLogRow.holds Try.pinned (OpenSpec.ofChange fnCompareLogNoQueryGainsWhenTheServerExtendsItsLogSpec)

/-- ITS FALSE NEIGHBOUR: 'it returns false'. Refute it at one input. -/
def fnCompareLogNoQueryGainsWhenTheServerExtendsItsLogWrong : ChangeSpec := { name := "fnCompareLogNoQueryGainsWhenTheServerExtendsItsLog", fn := fun _ => fun
  | [d1, d2, d3, d4] => { results := [.lit (.bool false)], args := [d1, d2, d3, d4] }
  | _ => none }
def FnCompareLogNoQueryGainsWhenTheServerExtendsItsLogWrongFalsely : Prop := fnCompareLogNoQueryGainsWhenTheServerExtendsItsLogRow.holds Try.pinned (OpenSpec.ofChange fnCompareLogNoQueryGainsWhenTheServerExtendsItsLogWrong)

/-- 'zzlaws_root_b1.FnAssignTimeoutFallsOneStepPerPriority': WHATEVER THE INPUT: true; the input reads as it did. -/
def fnAssignTimeoutFallsOneStepPerPrioritySpec : ChangeSpec := { name := "fnAssignTimeoutFallsOneStepPerPriority", fn := fun _ => fun
  | [d1, d2, d3, d4, d5, d6] => { results := [.lit (.bool true)], args := [d1, d2, d3, d4, d5, d6] }
  | _ => none }
def fnAssignTimeoutFallsOneStepPerPriorityRow : OpenClaim := { program := "qxb6617010a", sum := "61ad895ba0f66ccfc437278b2dcfffbc03cfb862bde5973389f0e747dda31480", func := "example.com/forewarn/forewarn/zzlaws_root_b1.FnAssignTimeoutFallsOneStepPerPriority", spec := "fnAssignTimeoutFallsOneStepPerPriority", apart := false }
def FnAssignTimeoutFallsOneStepPerPrioritySaid : Prop := fnAssignTimeoutFallsOneStepPerPriorityRow.holds Try.pinned (OpenSpec.ofChange fnAssignTimeoutFallsOneStepPerPrioritySpec)

/-- ITS FALSE NEIGHBOUR: 'it returns false'. Refute it at one input. -/
def fnAssignTimeoutFallsOneStepPerPriorityWrong : ChangeSpec := { name := "fnAssignTimeoutFallsOneStepPerPriority", fn := fun _ => fun
  | [d1, d2, d3, d4, d5, d6] => { results := [.lit (.bool false)], args := [d1, d2, d3, d4, d5, d6] }
  | _ => none }
def FnAssignTimeoutFallsOneStepPerPriorityWrongFalsely : Prop := fnAssignTimeoutFallsOneStepPerPriorityRow.holds Try.pinned (OpenSpec.ofChange fnAssignTimeoutFallsOneStepPerPriorityWrong)

/-- 'zzlaws_root_b1.FnAssignAgreesWithTheInitialConfiguration': WHATEVER THE INPUT: true; the input reads as it did. -/
def fnAssignAgreesWithTheInitialConfigurationSpec : ChangeSpec := { name := "fnAssignAgreesWithTheInitialConfiguration", fn := fun _ => fun
  | [d1, d2, d3, d4, d5, d6, d7] => { results := [.lit (.bool true)], args := [d1, d2, d3, d4, d5, d6, d7] }
  | _ => none }
def fnAssignAgreesWithTheInitialConfigurationRow : OpenClaim := { program := "qxb6617010a", sum := "61ad895ba0f66ccfc437278b2dcfffbc03cfb862bde5973389f0e747dda31480", func := "example.com/forewarn/forewarn/zzlaws_root_b1.FnAssignAgreesWithTheInitialConfiguration", spec := "fnAssignAgreesWithTheInitialConfiguration", apart := false }
def FnAssignAgreesWithTheInitialConfigurationSaid : Prop := fnAssignAgreesWithTheInitialConfigurationRow.holds Try.pinned (OpenSpec.ofChange fnAssignAgreesWithTheInitialConfigurationSpec)

/-- ITS FALSE NEIGHBOUR: 'it returns false'. Refute it at one input. -/
def fnAssignAgreesWithTheInitialConfigurationWrong : ChangeSpec := { name := "fnAssignAgreesWithTheInitialConfiguration", fn := fun _ => fun
  | [d1, d2, d3, d4, d5, d6, d7] => { results := [.lit (.bool false)], args := [d1, d2, d3, d4, d5, d6, d7] }
  | _ => none }
def FnAssignAgreesWithTheInitialConfigurationWrongFalsely : Prop := fnAssignAgreesWithTheInitialConfigurationRow.holds Try.pinned (OpenSpec.ofChange fnAssignAgreesWithTheInitialConfigurationWrong)

end Rows
end Go.Proofs.Qxb6617010a
