/-
  No cell of these rows narrows 'for every input' (looked for: loops, veiled, ifaces, maps, wideKeys, modest, calm, conditions, laid).
  DERIVED. THE GIVEN ROWS OF THIS SEAT. 9 by the template 'for every input the law returns true; each argument reads behind the call as it read before'; 0 by the template 'total and deterministic' (their statements: Qxb6001346aTotals.lean).
  GIVEN WITH THE SEED: the statements are not yours to turn. If you find one false, say at which input.
  Laid BY PROGRAM, IN A SANDBOX (cutbox-rows.mjs): the forced cells as the released guide's own fill.sh prints them over the translation f2a54924db294b02… (all of the seat's roots in one cut). By AI agents, Wed Nov 11 2026. No macro, syntax, notation, axiom, sorry.
-/
import Derived.Test.Qxb6001346aChecked
import GoSem.Claim
import GoSem.ClaimJoined
import GoSem.ClaimMapViews
import Derived.JoinedTies
import Derived.KernelRfl
namespace Go.Proofs.Qxb6001346a
/- THE CELL 'sum', in the pinned program and in every row, IS THE sha256 OF THE DUMP (.gsa) THAT Qxb6001346aProg.lean LOADS. Nothing in Lean hashes anything: it is a label: what it is worth is what the hold of that sum in a sandbox is worth. -/
noncomputable def Try.pinned : Pinned := { name := "qxb6001346a", sum := "f2a54924db294b02ed5df53af40afdb820e966cf6a26185c6e2b12502b35b15b", checked := Try.checked }
namespace Rows
def none {H : Type} : Left H := { results := [], args := [] }

/-- 'zzlaws_internal_history_b1.FnComponentsAreMutualReachability': WHATEVER THE INPUT: true; the input reads as it did. -/
def fnComponentsAreMutualReachabilitySpec : ChangeSpec := { name := "fnComponentsAreMutualReachability", fn := fun _ => fun
  | [d1, d2, d3, d4] => { results := [.lit (.bool true)], args := [d1, d2, d3, d4] }
  | _ => none }
def fnComponentsAreMutualReachabilityRow : OpenClaim := { program := "qxb6001346a", sum := "f2a54924db294b02ed5df53af40afdb820e966cf6a26185c6e2b12502b35b15b", func := "example.com/tidemark/tidemark/zzlaws_internal_history_b1.FnComponentsAreMutualReachability", spec := "fnComponentsAreMutualReachability", unfollowed := true, recurses := true, apart := false }
def FnComponentsAreMutualReachabilitySaid : Prop := fnComponentsAreMutualReachabilityRow.holds Try.pinned (OpenSpec.ofChange fnComponentsAreMutualReachabilitySpec)

/-- ITS FALSE NEIGHBOUR: 'it returns false'. Refute it at one input. -/
def fnComponentsAreMutualReachabilityWrong : ChangeSpec := { name := "fnComponentsAreMutualReachability", fn := fun _ => fun
  | [d1, d2, d3, d4] => { results := [.lit (.bool false)], args := [d1, d2, d3, d4] }
  | _ => none }
def FnComponentsAreMutualReachabilityWrongFalsely : Prop := fnComponentsAreMutualReachabilityRow.holds Try.pinned (OpenSpec.ofChange fnComponentsAreMutualReachabilityWrong)

/-- 'zzlaws_internal_history_b1.FnComponentsSizesPartitionTheNodes': WHATEVER THE INPUT: true; the input reads as it did. -/
def fnComponentsSizesPartitionTheNodesSpec : ChangeSpec := { name := "fnComponentsSizesPartitionTheNodes", fn := fun _ => fun
  | [d1, d2, d3, d4] => { results := [.lit (.bool true)], args := [d1, d2, d3, d4] }
  | _ => none }
def fnComponentsSizesPartitionTheNodesRow : OpenClaim := { program := "qxb6001346a", sum := "f2a54924db294b02ed5df53af40afdb820e966cf6a26185c6e2b12502b35b15b", func := "example.com/tidemark/tidemark/zzlaws_internal_history_b1.FnComponentsSizesPartitionTheNodes", spec := "fnComponentsSizesPartitionTheNodes", unfollowed := true, recurses := true, apart := false }
def FnComponentsSizesPartitionTheNodesSaid : Prop := fnComponentsSizesPartitionTheNodesRow.holds Try.pinned (OpenSpec.ofChange fnComponentsSizesPartitionTheNodesSpec)

/-- ITS FALSE NEIGHBOUR: 'it returns false'. Refute it at one input. -/
def fnComponentsSizesPartitionTheNodesWrong : ChangeSpec := { name := "fnComponentsSizesPartitionTheNodes", fn := fun _ => fun
  | [d1, d2, d3, d4] => { results := [.lit (.bool false)], args := [d1, d2, d3, d4] }
  | _ => none }
def FnComponentsSizesPartitionTheNodesWrongFalsely : Prop := fnComponentsSizesPartitionTheNodesRow.holds Try.pinned (OpenSpec.ofChange fnComponentsSizesPartitionTheNodesWrong)

/-- 'zzlaws_internal_history_b1.FnComponentsComeInReverseTopologicalOrder': WHATEVER THE INPUT: true; the input reads as it did. -/
def fnComponentsComeInReverseTopologicalOrderSpec : ChangeSpec := { name := "fnComponentsComeInReverseTopologicalOrder", fn := fun _ => fun
  | [d1, d2, d3, d4] => { results := [.lit (.bool true)], args := [d1, d2, d3, d4] }
  | _ => none }
def fnComponentsComeInReverseTopologicalOrderRow : OpenClaim := { program := "qxb6001346a", sum := "f2a54924db294b02ed5df53af40afdb820e966cf6a26185c6e2b12502b35b15b", func := "example.com/tidemark/tidemark/zzlaws_internal_history_b1.FnComponentsComeInReverseTopologicalOrder", spec := "fnComponentsComeInReverseTopologicalOrder", unfollowed := true, recurses := true, apart := false }
def FnComponentsComeInReverseTopologicalOrderSaid : Prop := fnComponentsComeInReverseTopologicalOrderRow.holds Try.pinned (OpenSpec.ofChange fnComponentsComeInReverseTopologicalOrderSpec)

/-- ITS FALSE NEIGHBOUR: 'it returns false'. Refute it at one input. -/
def fnComponentsComeInReverseTopologicalOrderWrong : ChangeSpec := { name := "fnComponentsComeInReverseTopologicalOrder", fn := fun _ => fun
  | [d1, d2, d3, d4] => { results := [.lit (.bool false)], args := [d1, d2, d3, d4] }
  | _ => none }
def FnComponentsComeInReverseTopologicalOrderWrongFalsely : Prop := fnComponentsComeInReverseTopologicalOrderRow.holds Try.pinned (OpenSpec.ofChange fnComponentsComeInReverseTopologicalOrderWrong)

/-- 'zzlaws_internal_history_b1.FnCollectCommittedExactly': WHATEVER THE INPUT: true; the input reads as it did. -/
def fnCollectCommittedExactlySpec : ChangeSpec := { name := "fnCollectCommittedExactly", fn := fun _ => fun
  | [d] => { results := [.lit (.bool true)], args := [d] }
  | _ => none }
def fnCollectCommittedExactlyRow : OpenClaim := { program := "qxb6001346a", sum := "f2a54924db294b02ed5df53af40afdb820e966cf6a26185c6e2b12502b35b15b", func := "example.com/tidemark/tidemark/zzlaws_internal_history_b1.FnCollectCommittedExactly", spec := "fnCollectCommittedExactly", apart := false }
def FnCollectCommittedExactlySaid : Prop := fnCollectCommittedExactlyRow.holds Try.pinned (OpenSpec.ofChange fnCollectCommittedExactlySpec)

/-- ITS FALSE NEIGHBOUR: 'it returns false'. Refute it at one input. -/
def fnCollectCommittedExactlyWrong : ChangeSpec := { name := "fnCollectCommittedExactly", fn := fun _ => fun
  | [d] => { results := [.lit (.bool false)], args := [d] }
  | _ => none }
def FnCollectCommittedExactlyWrongFalsely : Prop := fnCollectCommittedExactlyRow.holds Try.pinned (OpenSpec.ofChange fnCollectCommittedExactlyWrong)

/-- 'zzlaws_internal_history_b1.FnCollectNumbersReadValuesConsistently': WHATEVER THE INPUT: true; the input reads as it did. -/
def fnCollectNumbersReadValuesConsistentlySpec : ChangeSpec := { name := "fnCollectNumbersReadValuesConsistently", fn := fun _ => fun
  | [d] => { results := [.lit (.bool true)], args := [d] }
  | _ => none }
def fnCollectNumbersReadValuesConsistentlyRow : OpenClaim := { program := "qxb6001346a", sum := "f2a54924db294b02ed5df53af40afdb820e966cf6a26185c6e2b12502b35b15b", func := "example.com/tidemark/tidemark/zzlaws_internal_history_b1.FnCollectNumbersReadValuesConsistently", spec := "fnCollectNumbersReadValuesConsistently", apart := false }
def FnCollectNumbersReadValuesConsistentlySaid : Prop := fnCollectNumbersReadValuesConsistentlyRow.holds Try.pinned (OpenSpec.ofChange fnCollectNumbersReadValuesConsistentlySpec)

/-- ITS FALSE NEIGHBOUR: 'it returns false'. Refute it at one input. -/
def fnCollectNumbersReadValuesConsistentlyWrong : ChangeSpec := { name := "fnCollectNumbersReadValuesConsistently", fn := fun _ => fun
  | [d] => { results := [.lit (.bool false)], args := [d] }
  | _ => none }
def FnCollectNumbersReadValuesConsistentlyWrongFalsely : Prop := fnCollectNumbersReadValuesConsistentlyRow.holds Try.pinned (OpenSpec.ofChange fnCollectNumbersReadValuesConsistentlyWrong)

/-- 'zzlaws_internal_history_b1.FnCollectNumbersAppendsAndMarksIntermediate': WHATEVER THE INPUT: true; the input reads as it did. -/
def fnCollectNumbersAppendsAndMarksIntermediateSpec : ChangeSpec := { name := "fnCollectNumbersAppendsAndMarksIntermediate", fn := fun _ => fun
  | [d] => { results := [.lit (.bool true)], args := [d] }
  | _ => none }
def fnCollectNumbersAppendsAndMarksIntermediateRow : OpenClaim := { program := "qxb6001346a", sum := "f2a54924db294b02ed5df53af40afdb820e966cf6a26185c6e2b12502b35b15b", func := "example.com/tidemark/tidemark/zzlaws_internal_history_b1.FnCollectNumbersAppendsAndMarksIntermediate", spec := "fnCollectNumbersAppendsAndMarksIntermediate", apart := false }
def FnCollectNumbersAppendsAndMarksIntermediateSaid : Prop := fnCollectNumbersAppendsAndMarksIntermediateRow.holds Try.pinned (OpenSpec.ofChange fnCollectNumbersAppendsAndMarksIntermediateSpec)

/-- ITS FALSE NEIGHBOUR: 'it returns false'. Refute it at one input. -/
def fnCollectNumbersAppendsAndMarksIntermediateWrong : ChangeSpec := { name := "fnCollectNumbersAppendsAndMarksIntermediate", fn := fun _ => fun
  | [d] => { results := [.lit (.bool false)], args := [d] }
  | _ => none }
def FnCollectNumbersAppendsAndMarksIntermediateWrongFalsely : Prop := fnCollectNumbersAppendsAndMarksIntermediateRow.holds Try.pinned (OpenSpec.ofChange fnCollectNumbersAppendsAndMarksIntermediateWrong)

/-- 'zzlaws_internal_history_b1.FnJudgeReadsFlagsDuplicateAndGarbageReads': WHATEVER THE INPUT: true; the input reads as it did. -/
def fnJudgeReadsFlagsDuplicateAndGarbageReadsSpec : ChangeSpec := { name := "fnJudgeReadsFlagsDuplicateAndGarbageReads", fn := fun _ => fun
  | [d] => { results := [.lit (.bool true)], args := [d] }
  | _ => none }
def fnJudgeReadsFlagsDuplicateAndGarbageReadsRow : OpenClaim := { program := "qxb6001346a", sum := "f2a54924db294b02ed5df53af40afdb820e966cf6a26185c6e2b12502b35b15b", func := "example.com/tidemark/tidemark/zzlaws_internal_history_b1.FnJudgeReadsFlagsDuplicateAndGarbageReads", spec := "fnJudgeReadsFlagsDuplicateAndGarbageReads", apart := false }
def FnJudgeReadsFlagsDuplicateAndGarbageReadsSaid : Prop := fnJudgeReadsFlagsDuplicateAndGarbageReadsRow.holds Try.pinned (OpenSpec.ofChange fnJudgeReadsFlagsDuplicateAndGarbageReadsSpec)

/-- ITS FALSE NEIGHBOUR: 'it returns false'. Refute it at one input. -/
def fnJudgeReadsFlagsDuplicateAndGarbageReadsWrong : ChangeSpec := { name := "fnJudgeReadsFlagsDuplicateAndGarbageReads", fn := fun _ => fun
  | [d] => { results := [.lit (.bool false)], args := [d] }
  | _ => none }
def FnJudgeReadsFlagsDuplicateAndGarbageReadsWrongFalsely : Prop := fnJudgeReadsFlagsDuplicateAndGarbageReadsRow.holds Try.pinned (OpenSpec.ofChange fnJudgeReadsFlagsDuplicateAndGarbageReadsWrong)

/-- 'zzlaws_internal_history_b1.FnJudgeReadsLongestCleanRead': WHATEVER THE INPUT: true; the input reads as it did. -/
def fnJudgeReadsLongestCleanReadSpec : ChangeSpec := { name := "fnJudgeReadsLongestCleanRead", fn := fun _ => fun
  | [d] => { results := [.lit (.bool true)], args := [d] }
  | _ => none }
def fnJudgeReadsLongestCleanReadRow : OpenClaim := { program := "qxb6001346a", sum := "f2a54924db294b02ed5df53af40afdb820e966cf6a26185c6e2b12502b35b15b", func := "example.com/tidemark/tidemark/zzlaws_internal_history_b1.FnJudgeReadsLongestCleanRead", spec := "fnJudgeReadsLongestCleanRead", apart := false }
def FnJudgeReadsLongestCleanReadSaid : Prop := fnJudgeReadsLongestCleanReadRow.holds Try.pinned (OpenSpec.ofChange fnJudgeReadsLongestCleanReadSpec)

/-- ITS FALSE NEIGHBOUR: 'it returns false'. Refute it at one input. -/
def fnJudgeReadsLongestCleanReadWrong : ChangeSpec := { name := "fnJudgeReadsLongestCleanRead", fn := fun _ => fun
  | [d] => { results := [.lit (.bool false)], args := [d] }
  | _ => none }
def FnJudgeReadsLongestCleanReadWrongFalsely : Prop := fnJudgeReadsLongestCleanReadRow.holds Try.pinned (OpenSpec.ofChange fnJudgeReadsLongestCleanReadWrong)

/-- 'zzlaws_internal_history_b1.FnJudgeReadsCountsAbortedAndIntermediateReads': WHATEVER THE INPUT: true; the input reads as it did. -/
def fnJudgeReadsCountsAbortedAndIntermediateReadsSpec : ChangeSpec := { name := "fnJudgeReadsCountsAbortedAndIntermediateReads", fn := fun _ => fun
  | [d] => { results := [.lit (.bool true)], args := [d] }
  | _ => none }
def fnJudgeReadsCountsAbortedAndIntermediateReadsRow : OpenClaim := { program := "qxb6001346a", sum := "f2a54924db294b02ed5df53af40afdb820e966cf6a26185c6e2b12502b35b15b", func := "example.com/tidemark/tidemark/zzlaws_internal_history_b1.FnJudgeReadsCountsAbortedAndIntermediateReads", spec := "fnJudgeReadsCountsAbortedAndIntermediateReads", apart := false }
def FnJudgeReadsCountsAbortedAndIntermediateReadsSaid : Prop := fnJudgeReadsCountsAbortedAndIntermediateReadsRow.holds Try.pinned (OpenSpec.ofChange fnJudgeReadsCountsAbortedAndIntermediateReadsSpec)

/-- ITS FALSE NEIGHBOUR: 'it returns false'. Refute it at one input. -/
def fnJudgeReadsCountsAbortedAndIntermediateReadsWrong : ChangeSpec := { name := "fnJudgeReadsCountsAbortedAndIntermediateReads", fn := fun _ => fun
  | [d] => { results := [.lit (.bool false)], args := [d] }
  | _ => none }
def FnJudgeReadsCountsAbortedAndIntermediateReadsWrongFalsely : Prop := fnJudgeReadsCountsAbortedAndIntermediateReadsRow.holds Try.pinned (OpenSpec.ofChange fnJudgeReadsCountsAbortedAndIntermediateReadsWrong)

end Rows
end Go.Proofs.Qxb6001346a
