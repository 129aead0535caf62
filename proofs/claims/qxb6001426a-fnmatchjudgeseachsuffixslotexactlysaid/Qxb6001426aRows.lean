/-
  No cell of these rows narrows 'for every input' (looked for: loops, veiled, ifaces, maps, wideKeys, modest, calm, conditions, laid).
  DERIVED. THE GIVEN ROWS OF THIS SEAT. 6 by the template 'for every input the law returns true; each argument reads behind the call as it read before'; 0 by the template 'total and deterministic' (their statements: Qxb6001426aTotals.lean).
  GIVEN WITH THE SEED: the statements are not yours to turn. If you find one false, say at which input.
  Laid BY PROGRAM, IN A SANDBOX (cutbox-rows.mjs): the forced cells as the released guide's own fill.sh prints them over the translation 4a0550e29aec6467… (all of the seat's roots in one cut). By AI agents, Wed Nov 11 2026. No macro, syntax, notation, axiom, sorry.
-/
import Derived.Test.Qxb6001426aChecked
import GoSem.Claim
import GoSem.ClaimJoined
import GoSem.ClaimMapViews
import Derived.JoinedTies
import Derived.KernelRfl
namespace Go.Proofs.Qxb6001426a
/- THE CELL 'sum', in the pinned program and in every row, IS THE sha256 OF THE DUMP (.gsa) THAT Qxb6001426aProg.lean LOADS. Nothing in Lean hashes anything: it is a label: what it is worth is what the hold of that sum in a sandbox is worth. -/
noncomputable def Try.pinned : Pinned := { name := "qxb6001426a", sum := "4a0550e29aec6467855a8c3b9a10bf8ce404663bd7e237acaf7aed0d15c974b6", checked := Try.checked }
namespace Rows
def none {H : Type} : Left H := { results := [], args := [] }

/-- 'zzlaws_verifier_b1.FnMatchRecoversTheNameOfAFilledPath': WHATEVER THE INPUT: true; the input reads as it did. -/
def fnMatchRecoversTheNameOfAFilledPathSpec : ChangeSpec := { name := "fnMatchRecoversTheNameOfAFilledPath", fn := fun _ => fun
  | [d1, d2, d3] => { results := [.lit (.bool true)], args := [d1, d2, d3] }
  | _ => none }
def fnMatchRecoversTheNameOfAFilledPathRow : OpenClaim := { program := "qxb6001426a", sum := "4a0550e29aec6467855a8c3b9a10bf8ce404663bd7e237acaf7aed0d15c974b6", func := "example.com/pull-permit/pull-permit/zzlaws_verifier_b1.FnMatchRecoversTheNameOfAFilledPath", spec := "fnMatchRecoversTheNameOfAFilledPath", inPlace := ["internal/abi.NoEscape", "internal/bytealg.MakeNoZero"], apart := false }
def FnMatchRecoversTheNameOfAFilledPathSaid : Prop := fnMatchRecoversTheNameOfAFilledPathRow.holds Try.pinned (OpenSpec.ofChange fnMatchRecoversTheNameOfAFilledPathSpec)

/-- ITS FALSE NEIGHBOUR: 'it returns false'. Refute it at one input. -/
def fnMatchRecoversTheNameOfAFilledPathWrong : ChangeSpec := { name := "fnMatchRecoversTheNameOfAFilledPath", fn := fun _ => fun
  | [d1, d2, d3] => { results := [.lit (.bool false)], args := [d1, d2, d3] }
  | _ => none }
def FnMatchRecoversTheNameOfAFilledPathWrongFalsely : Prop := fnMatchRecoversTheNameOfAFilledPathRow.holds Try.pinned (OpenSpec.ofChange fnMatchRecoversTheNameOfAFilledPathWrong)

/-- 'zzlaws_verifier_b1.FnMatchJudgesEachSuffixSlotExactly': WHATEVER THE INPUT: true; the input reads as it did. -/
def fnMatchJudgesEachSuffixSlotExactlySpec : ChangeSpec := { name := "fnMatchJudgesEachSuffixSlotExactly", fn := fun _ => fun
  | [d1, d2, d3, d4] => { results := [.lit (.bool true)], args := [d1, d2, d3, d4] }
  | _ => none }
def fnMatchJudgesEachSuffixSlotExactlyRow : OpenClaim := { program := "qxb6001426a", sum := "4a0550e29aec6467855a8c3b9a10bf8ce404663bd7e237acaf7aed0d15c974b6", func := "example.com/pull-permit/pull-permit/zzlaws_verifier_b1.FnMatchJudgesEachSuffixSlotExactly", spec := "fnMatchJudgesEachSuffixSlotExactly", inPlace := ["internal/abi.NoEscape", "internal/bytealg.MakeNoZero"], apart := false }
def FnMatchJudgesEachSuffixSlotExactlySaid : Prop := fnMatchJudgesEachSuffixSlotExactlyRow.holds Try.pinned (OpenSpec.ofChange fnMatchJudgesEachSuffixSlotExactlySpec)

/-- ITS FALSE NEIGHBOUR: 'it returns false'. Refute it at one input. -/
def fnMatchJudgesEachSuffixSlotExactlyWrong : ChangeSpec := { name := "fnMatchJudgesEachSuffixSlotExactly", fn := fun _ => fun
  | [d1, d2, d3, d4] => { results := [.lit (.bool false)], args := [d1, d2, d3, d4] }
  | _ => none }
def FnMatchJudgesEachSuffixSlotExactlyWrongFalsely : Prop := fnMatchJudgesEachSuffixSlotExactlyRow.holds Try.pinned (OpenSpec.ofChange fnMatchJudgesEachSuffixSlotExactlyWrong)

/-- 'zzlaws_verifier_b1.FnMatchDependsOnlyOnTheTail': WHATEVER THE INPUT: true; the input reads as it did. -/
def fnMatchDependsOnlyOnTheTailSpec : ChangeSpec := { name := "fnMatchDependsOnlyOnTheTail", fn := fun _ => fun
  | [d1, d2, d3, d4] => { results := [.lit (.bool true)], args := [d1, d2, d3, d4] }
  | _ => none }
def fnMatchDependsOnlyOnTheTailRow : OpenClaim := { program := "qxb6001426a", sum := "4a0550e29aec6467855a8c3b9a10bf8ce404663bd7e237acaf7aed0d15c974b6", func := "example.com/pull-permit/pull-permit/zzlaws_verifier_b1.FnMatchDependsOnlyOnTheTail", spec := "fnMatchDependsOnlyOnTheTail", inPlace := ["internal/abi.NoEscape", "internal/bytealg.MakeNoZero"], apart := false }
def FnMatchDependsOnlyOnTheTailSaid : Prop := fnMatchDependsOnlyOnTheTailRow.holds Try.pinned (OpenSpec.ofChange fnMatchDependsOnlyOnTheTailSpec)

/-- ITS FALSE NEIGHBOUR: 'it returns false'. Refute it at one input. -/
def fnMatchDependsOnlyOnTheTailWrong : ChangeSpec := { name := "fnMatchDependsOnlyOnTheTail", fn := fun _ => fun
  | [d1, d2, d3, d4] => { results := [.lit (.bool false)], args := [d1, d2, d3, d4] }
  | _ => none }
def FnMatchDependsOnlyOnTheTailWrongFalsely : Prop := fnMatchDependsOnlyOnTheTailRow.holds Try.pinned (OpenSpec.ofChange fnMatchDependsOnlyOnTheTailWrong)

/-- 'zzlaws_verifier_b1.FnGrantsIsReflexiveAndTransitive': WHATEVER THE INPUT: true; the input reads as it did. -/
def fnGrantsIsReflexiveAndTransitiveSpec : ChangeSpec := { name := "fnGrantsIsReflexiveAndTransitive", fn := fun _ => fun
  | [d1, d2, d3, d4, d5, d6, d7, d8, d9] => { results := [.lit (.bool true)], args := [d1, d2, d3, d4, d5, d6, d7, d8, d9] }
  | _ => none }
def fnGrantsIsReflexiveAndTransitiveRow : OpenClaim := { program := "qxb6001426a", sum := "4a0550e29aec6467855a8c3b9a10bf8ce404663bd7e237acaf7aed0d15c974b6", func := "example.com/pull-permit/pull-permit/zzlaws_verifier_b1.FnGrantsIsReflexiveAndTransitive", spec := "fnGrantsIsReflexiveAndTransitive", unfollowed := true, recurses := true, apart := false }
def FnGrantsIsReflexiveAndTransitiveSaid : Prop := fnGrantsIsReflexiveAndTransitiveRow.holds Try.pinned (OpenSpec.ofChange fnGrantsIsReflexiveAndTransitiveSpec)

/-- ITS FALSE NEIGHBOUR: 'it returns false'. Refute it at one input. -/
def fnGrantsIsReflexiveAndTransitiveWrong : ChangeSpec := { name := "fnGrantsIsReflexiveAndTransitive", fn := fun _ => fun
  | [d1, d2, d3, d4, d5, d6, d7, d8, d9] => { results := [.lit (.bool false)], args := [d1, d2, d3, d4, d5, d6, d7, d8, d9] }
  | _ => none }
def FnGrantsIsReflexiveAndTransitiveWrongFalsely : Prop := fnGrantsIsReflexiveAndTransitiveRow.holds Try.pinned (OpenSpec.ofChange fnGrantsIsReflexiveAndTransitiveWrong)

/-- 'zzlaws_verifier_b1.FnGrantsSplitsOverNeeded': WHATEVER THE INPUT: true; the input reads as it did. -/
def fnGrantsSplitsOverNeededSpec : ChangeSpec := { name := "fnGrantsSplitsOverNeeded", fn := fun _ => fun
  | [d1, d2, d3, d4, d5, d6, d7, d8, d9] => { results := [.lit (.bool true)], args := [d1, d2, d3, d4, d5, d6, d7, d8, d9] }
  | _ => none }
def fnGrantsSplitsOverNeededRow : OpenClaim := { program := "qxb6001426a", sum := "4a0550e29aec6467855a8c3b9a10bf8ce404663bd7e237acaf7aed0d15c974b6", func := "example.com/pull-permit/pull-permit/zzlaws_verifier_b1.FnGrantsSplitsOverNeeded", spec := "fnGrantsSplitsOverNeeded", unfollowed := true, recurses := true, apart := false }
def FnGrantsSplitsOverNeededSaid : Prop := fnGrantsSplitsOverNeededRow.holds Try.pinned (OpenSpec.ofChange fnGrantsSplitsOverNeededSpec)

/-- ITS FALSE NEIGHBOUR: 'it returns false'. Refute it at one input. -/
def fnGrantsSplitsOverNeededWrong : ChangeSpec := { name := "fnGrantsSplitsOverNeeded", fn := fun _ => fun
  | [d1, d2, d3, d4, d5, d6, d7, d8, d9] => { results := [.lit (.bool false)], args := [d1, d2, d3, d4, d5, d6, d7, d8, d9] }
  | _ => none }
def FnGrantsSplitsOverNeededWrongFalsely : Prop := fnGrantsSplitsOverNeededRow.holds Try.pinned (OpenSpec.ofChange fnGrantsSplitsOverNeededWrong)

/-- 'zzlaws_verifier_b1.FnGrantsKeepsWhenAccessGrowsOrTurns': WHATEVER THE INPUT: true; the input reads as it did. -/
def fnGrantsKeepsWhenAccessGrowsOrTurnsSpec : ChangeSpec := { name := "fnGrantsKeepsWhenAccessGrowsOrTurns", fn := fun _ => fun
  | [d1, d2, d3, d4, d5, d6, d7, d8, d9] => { results := [.lit (.bool true)], args := [d1, d2, d3, d4, d5, d6, d7, d8, d9] }
  | _ => none }
def fnGrantsKeepsWhenAccessGrowsOrTurnsRow : OpenClaim := { program := "qxb6001426a", sum := "4a0550e29aec6467855a8c3b9a10bf8ce404663bd7e237acaf7aed0d15c974b6", func := "example.com/pull-permit/pull-permit/zzlaws_verifier_b1.FnGrantsKeepsWhenAccessGrowsOrTurns", spec := "fnGrantsKeepsWhenAccessGrowsOrTurns", unfollowed := true, recurses := true, apart := false }
def FnGrantsKeepsWhenAccessGrowsOrTurnsSaid : Prop := fnGrantsKeepsWhenAccessGrowsOrTurnsRow.holds Try.pinned (OpenSpec.ofChange fnGrantsKeepsWhenAccessGrowsOrTurnsSpec)

/-- ITS FALSE NEIGHBOUR: 'it returns false'. Refute it at one input. -/
def fnGrantsKeepsWhenAccessGrowsOrTurnsWrong : ChangeSpec := { name := "fnGrantsKeepsWhenAccessGrowsOrTurns", fn := fun _ => fun
  | [d1, d2, d3, d4, d5, d6, d7, d8, d9] => { results := [.lit (.bool false)], args := [d1, d2, d3, d4, d5, d6, d7, d8, d9] }
  | _ => none }
def FnGrantsKeepsWhenAccessGrowsOrTurnsWrongFalsely : Prop := fnGrantsKeepsWhenAccessGrowsOrTurnsRow.holds Try.pinned (OpenSpec.ofChange fnGrantsKeepsWhenAccessGrowsOrTurnsWrong)

end Rows
end Go.Proofs.Qxb6001426a
