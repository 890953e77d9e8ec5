/-
  No cell of these rows narrows 'for every input' (looked for: loops, veiled, ifaces, maps, wideKeys, modest, calm, conditions, laid).
  DERIVED. THE GIVEN ROWS OF THIS SEAT. 8 by the template 'for every input the law returns true; each argument reads behind the call as it read before'; 0 by the template 'total and deterministic' (their statements: Qxb6600018aTotals.lean).
  GIVEN WITH THE SEED: the statements are not yours to turn. If you find one false, say at which input.
  Laid BY PROGRAM, IN A SANDBOX (cutbox-rows.mjs): the forced cells as the released guide's own fill.sh prints them over the translation 365f6027b9c1ac09… (all of the seat's roots in one cut). By AI agents, Wed Nov 11 2026. No macro, syntax, notation, axiom, sorry.
-/
import Derived.Test.Qxb6600018aChecked
import GoSem.Claim
import GoSem.ClaimJoined
import GoSem.ClaimMapViews
import Derived.JoinedTies
import Derived.KernelRfl
namespace Go.Proofs.Qxb6600018a
/- THE CELL 'sum', in the pinned program and in every row, IS THE sha256 OF THE DUMP (.gsa) THAT Qxb6600018aProg.lean LOADS. Nothing in Lean hashes anything: it is a label: what it is worth is what the hold of that sum in a sandbox is worth. -/
noncomputable def Try.pinned : Pinned := { name := "qxb6600018a", sum := "365f6027b9c1ac09e999b7401d5560d5175b03c7fb3e106b79fd02f2a58730c4", checked := Try.checked }
namespace Rows
def none {H : Type} : Left H := { results := [], args := [] }

/-- 'zzlaws_explore_b1.FnHappensBeforeIsReachability': WHATEVER THE INPUT: true; the input reads as it did. -/
def fnHappensBeforeIsReachabilitySpec : ChangeSpec := { name := "fnHappensBeforeIsReachability", fn := fun _ => fun
  | [d1, d2, d3, d4, d5] => { results := [.lit (.bool true)], args := [d1, d2, d3, d4, d5] }
  | _ => none }
def fnHappensBeforeIsReachabilityRow : OpenClaim := { program := "qxb6600018a", sum := "365f6027b9c1ac09e999b7401d5560d5175b03c7fb3e106b79fd02f2a58730c4", func := "example.com/strict-sync/strict-sync/zzlaws_explore_b1.FnHappensBeforeIsReachability", spec := "fnHappensBeforeIsReachability", unfollowed := true, recurses := true, apart := false }
def FnHappensBeforeIsReachabilitySaid : Prop := fnHappensBeforeIsReachabilityRow.holds Try.pinned (OpenSpec.ofChange fnHappensBeforeIsReachabilitySpec)

/-- ITS FALSE NEIGHBOUR: 'it returns false'. Refute it at one input. -/
def fnHappensBeforeIsReachabilityWrong : ChangeSpec := { name := "fnHappensBeforeIsReachability", fn := fun _ => fun
  | [d1, d2, d3, d4, d5] => { results := [.lit (.bool false)], args := [d1, d2, d3, d4, d5] }
  | _ => none }
def FnHappensBeforeIsReachabilityWrongFalsely : Prop := fnHappensBeforeIsReachabilityRow.holds Try.pinned (OpenSpec.ofChange fnHappensBeforeIsReachabilityWrong)

/-- 'zzlaws_explore_b1.FnHappensBeforeOfAPrefixAgrees': WHATEVER THE INPUT: true; the input reads as it did. -/
def fnHappensBeforeOfAPrefixAgreesSpec : ChangeSpec := { name := "fnHappensBeforeOfAPrefixAgrees", fn := fun _ => fun
  | [d1, d2, d3, d4, d5, d6] => { results := [.lit (.bool true)], args := [d1, d2, d3, d4, d5, d6] }
  | _ => none }
def fnHappensBeforeOfAPrefixAgreesRow : OpenClaim := { program := "qxb6600018a", sum := "365f6027b9c1ac09e999b7401d5560d5175b03c7fb3e106b79fd02f2a58730c4", func := "example.com/strict-sync/strict-sync/zzlaws_explore_b1.FnHappensBeforeOfAPrefixAgrees", spec := "fnHappensBeforeOfAPrefixAgrees", unfollowed := true, recurses := true, apart := false }
def FnHappensBeforeOfAPrefixAgreesSaid : Prop := fnHappensBeforeOfAPrefixAgreesRow.holds Try.pinned (OpenSpec.ofChange fnHappensBeforeOfAPrefixAgreesSpec)

/-- ITS FALSE NEIGHBOUR: 'it returns false'. Refute it at one input. -/
def fnHappensBeforeOfAPrefixAgreesWrong : ChangeSpec := { name := "fnHappensBeforeOfAPrefixAgrees", fn := fun _ => fun
  | [d1, d2, d3, d4, d5, d6] => { results := [.lit (.bool false)], args := [d1, d2, d3, d4, d5, d6] }
  | _ => none }
def FnHappensBeforeOfAPrefixAgreesWrongFalsely : Prop := fnHappensBeforeOfAPrefixAgreesRow.holds Try.pinned (OpenSpec.ofChange fnHappensBeforeOfAPrefixAgreesWrong)

/-- 'zzlaws_explore_b1.FnHappensBeforeIsAPartialOrderOverDirectSteps': WHATEVER THE INPUT: true; the input reads as it did. -/
def fnHappensBeforeIsAPartialOrderOverDirectStepsSpec : ChangeSpec := { name := "fnHappensBeforeIsAPartialOrderOverDirectSteps", fn := fun _ => fun
  | [d1, d2, d3, d4, d5, d6] => { results := [.lit (.bool true)], args := [d1, d2, d3, d4, d5, d6] }
  | _ => none }
def fnHappensBeforeIsAPartialOrderOverDirectStepsRow : OpenClaim := { program := "qxb6600018a", sum := "365f6027b9c1ac09e999b7401d5560d5175b03c7fb3e106b79fd02f2a58730c4", func := "example.com/strict-sync/strict-sync/zzlaws_explore_b1.FnHappensBeforeIsAPartialOrderOverDirectSteps", spec := "fnHappensBeforeIsAPartialOrderOverDirectSteps", unfollowed := true, recurses := true, apart := false }
def FnHappensBeforeIsAPartialOrderOverDirectStepsSaid : Prop := fnHappensBeforeIsAPartialOrderOverDirectStepsRow.holds Try.pinned (OpenSpec.ofChange fnHappensBeforeIsAPartialOrderOverDirectStepsSpec)

/-- ITS FALSE NEIGHBOUR: 'it returns false'. Refute it at one input. -/
def fnHappensBeforeIsAPartialOrderOverDirectStepsWrong : ChangeSpec := { name := "fnHappensBeforeIsAPartialOrderOverDirectSteps", fn := fun _ => fun
  | [d1, d2, d3, d4, d5, d6] => { results := [.lit (.bool false)], args := [d1, d2, d3, d4, d5, d6] }
  | _ => none }
def FnHappensBeforeIsAPartialOrderOverDirectStepsWrongFalsely : Prop := fnHappensBeforeIsAPartialOrderOverDirectStepsRow.holds Try.pinned (OpenSpec.ofChange fnHappensBeforeIsAPartialOrderOverDirectStepsWrong)

/-- 'zzlaws_explore_b1.FnBranchWithinBoundAddsOneOfTasksUnlessHeld': WHATEVER THE INPUT: true; the input reads as it did. -/
def fnBranchWithinBoundAddsOneOfTasksUnlessHeldSpec : ChangeSpec := { name := "fnBranchWithinBoundAddsOneOfTasksUnlessHeld", fn := fun _ => fun
  | [d1, d2, d3, d4, d5] => { results := [.lit (.bool true)], args := [d1, d2, d3, d4, d5] }
  | _ => none }
def fnBranchWithinBoundAddsOneOfTasksUnlessHeldRow : OpenClaim := { program := "qxb6600018a", sum := "365f6027b9c1ac09e999b7401d5560d5175b03c7fb3e106b79fd02f2a58730c4", func := "example.com/strict-sync/strict-sync/zzlaws_explore_b1.FnBranchWithinBoundAddsOneOfTasksUnlessHeld", spec := "fnBranchWithinBoundAddsOneOfTasksUnlessHeld", apart := false }
def FnBranchWithinBoundAddsOneOfTasksUnlessHeldSaid : Prop := fnBranchWithinBoundAddsOneOfTasksUnlessHeldRow.holds Try.pinned (OpenSpec.ofChange fnBranchWithinBoundAddsOneOfTasksUnlessHeldSpec)

/-- ITS FALSE NEIGHBOUR: 'it returns false'. Refute it at one input. -/
def fnBranchWithinBoundAddsOneOfTasksUnlessHeldWrong : ChangeSpec := { name := "fnBranchWithinBoundAddsOneOfTasksUnlessHeld", fn := fun _ => fun
  | [d1, d2, d3, d4, d5] => { results := [.lit (.bool false)], args := [d1, d2, d3, d4, d5] }
  | _ => none }
def FnBranchWithinBoundAddsOneOfTasksUnlessHeldWrongFalsely : Prop := fnBranchWithinBoundAddsOneOfTasksUnlessHeldRow.holds Try.pinned (OpenSpec.ofChange fnBranchWithinBoundAddsOneOfTasksUnlessHeldWrong)

/-- 'zzlaws_explore_b1.FnBranchTwiceIsOnce': WHATEVER THE INPUT: true; the input reads as it did. -/
def fnBranchTwiceIsOnceSpec : ChangeSpec := { name := "fnBranchTwiceIsOnce", fn := fun _ => fun
  | [d1, d2, d3, d4, d5, d6] => { results := [.lit (.bool true)], args := [d1, d2, d3, d4, d5, d6] }
  | _ => none }
def fnBranchTwiceIsOnceRow : OpenClaim := { program := "qxb6600018a", sum := "365f6027b9c1ac09e999b7401d5560d5175b03c7fb3e106b79fd02f2a58730c4", func := "example.com/strict-sync/strict-sync/zzlaws_explore_b1.FnBranchTwiceIsOnce", spec := "fnBranchTwiceIsOnce", apart := false }
def FnBranchTwiceIsOnceSaid : Prop := fnBranchTwiceIsOnceRow.holds Try.pinned (OpenSpec.ofChange fnBranchTwiceIsOnceSpec)

/-- ITS FALSE NEIGHBOUR: 'it returns false'. Refute it at one input. -/
def fnBranchTwiceIsOnceWrong : ChangeSpec := { name := "fnBranchTwiceIsOnce", fn := fun _ => fun
  | [d1, d2, d3, d4, d5, d6] => { results := [.lit (.bool false)], args := [d1, d2, d3, d4, d5, d6] }
  | _ => none }
def FnBranchTwiceIsOnceWrongFalsely : Prop := fnBranchTwiceIsOnceRow.holds Try.pinned (OpenSpec.ofChange fnBranchTwiceIsOnceWrong)

/-- 'zzlaws_explore_b1.FnReverseAddsOnlyAnEnabledRacingTask': WHATEVER THE INPUT: true; the input reads as it did. -/
def fnReverseAddsOnlyAnEnabledRacingTaskSpec : ChangeSpec := { name := "fnReverseAddsOnlyAnEnabledRacingTask", fn := fun _ => fun
  | [d1, d2, d3, d4, d5, d6, d7, d8] => { results := [.lit (.bool true)], args := [d1, d2, d3, d4, d5, d6, d7, d8] }
  | _ => none }
def fnReverseAddsOnlyAnEnabledRacingTaskRow : OpenClaim := { program := "qxb6600018a", sum := "365f6027b9c1ac09e999b7401d5560d5175b03c7fb3e106b79fd02f2a58730c4", func := "example.com/strict-sync/strict-sync/zzlaws_explore_b1.FnReverseAddsOnlyAnEnabledRacingTask", spec := "fnReverseAddsOnlyAnEnabledRacingTask", unfollowed := true, recurses := true, apart := false }
def FnReverseAddsOnlyAnEnabledRacingTaskSaid : Prop := fnReverseAddsOnlyAnEnabledRacingTaskRow.holds Try.pinned (OpenSpec.ofChange fnReverseAddsOnlyAnEnabledRacingTaskSpec)

/-- ITS FALSE NEIGHBOUR: 'it returns false'. Refute it at one input. -/
def fnReverseAddsOnlyAnEnabledRacingTaskWrong : ChangeSpec := { name := "fnReverseAddsOnlyAnEnabledRacingTask", fn := fun _ => fun
  | [d1, d2, d3, d4, d5, d6, d7, d8] => { results := [.lit (.bool false)], args := [d1, d2, d3, d4, d5, d6, d7, d8] }
  | _ => none }
def FnReverseAddsOnlyAnEnabledRacingTaskWrongFalsely : Prop := fnReverseAddsOnlyAnEnabledRacingTaskRow.holds Try.pinned (OpenSpec.ofChange fnReverseAddsOnlyAnEnabledRacingTaskWrong)

/-- 'zzlaws_explore_b1.FnReverseTwiceIsOnce': WHATEVER THE INPUT: true; the input reads as it did. -/
def fnReverseTwiceIsOnceSpec : ChangeSpec := { name := "fnReverseTwiceIsOnce", fn := fun _ => fun
  | [d1, d2, d3, d4, d5, d6, d7, d8] => { results := [.lit (.bool true)], args := [d1, d2, d3, d4, d5, d6, d7, d8] }
  | _ => none }
def fnReverseTwiceIsOnceRow : OpenClaim := { program := "qxb6600018a", sum := "365f6027b9c1ac09e999b7401d5560d5175b03c7fb3e106b79fd02f2a58730c4", func := "example.com/strict-sync/strict-sync/zzlaws_explore_b1.FnReverseTwiceIsOnce", spec := "fnReverseTwiceIsOnce", unfollowed := true, recurses := true, apart := false }
def FnReverseTwiceIsOnceSaid : Prop := fnReverseTwiceIsOnceRow.holds Try.pinned (OpenSpec.ofChange fnReverseTwiceIsOnceSpec)

/-- ITS FALSE NEIGHBOUR: 'it returns false'. Refute it at one input. -/
def fnReverseTwiceIsOnceWrong : ChangeSpec := { name := "fnReverseTwiceIsOnce", fn := fun _ => fun
  | [d1, d2, d3, d4, d5, d6, d7, d8] => { results := [.lit (.bool false)], args := [d1, d2, d3, d4, d5, d6, d7, d8] }
  | _ => none }
def FnReverseTwiceIsOnceWrongFalsely : Prop := fnReverseTwiceIsOnceRow.holds Try.pinned (OpenSpec.ofChange fnReverseTwiceIsOnceWrong)

/-- 'zzlaws_explore_b1.FnReverseWithNothingIndependentBetweenAddsTheRacingTask': WHATEVER THE INPUT: true; the input reads as it did. -/
def fnReverseWithNothingIndependentBetweenAddsTheRacingTaskSpec : ChangeSpec := { name := "fnReverseWithNothingIndependentBetweenAddsTheRacingTask", fn := fun _ => fun
  | [d1, d2, d3, d4, d5, d6, d7, d8] => { results := [.lit (.bool true)], args := [d1, d2, d3, d4, d5, d6, d7, d8] }
  | _ => none }
def fnReverseWithNothingIndependentBetweenAddsTheRacingTaskRow : OpenClaim := { program := "qxb6600018a", sum := "365f6027b9c1ac09e999b7401d5560d5175b03c7fb3e106b79fd02f2a58730c4", func := "example.com/strict-sync/strict-sync/zzlaws_explore_b1.FnReverseWithNothingIndependentBetweenAddsTheRacingTask", spec := "fnReverseWithNothingIndependentBetweenAddsTheRacingTask", unfollowed := true, recurses := true, apart := false }
def FnReverseWithNothingIndependentBetweenAddsTheRacingTaskSaid : Prop := fnReverseWithNothingIndependentBetweenAddsTheRacingTaskRow.holds Try.pinned (OpenSpec.ofChange fnReverseWithNothingIndependentBetweenAddsTheRacingTaskSpec)

/-- ITS FALSE NEIGHBOUR: 'it returns false'. Refute it at one input. -/
def fnReverseWithNothingIndependentBetweenAddsTheRacingTaskWrong : ChangeSpec := { name := "fnReverseWithNothingIndependentBetweenAddsTheRacingTask", fn := fun _ => fun
  | [d1, d2, d3, d4, d5, d6, d7, d8] => { results := [.lit (.bool false)], args := [d1, d2, d3, d4, d5, d6, d7, d8] }
  | _ => none }
def FnReverseWithNothingIndependentBetweenAddsTheRacingTaskWrongFalsely : Prop := fnReverseWithNothingIndependentBetweenAddsTheRacingTaskRow.holds Try.pinned (OpenSpec.ofChange fnReverseWithNothingIndependentBetweenAddsTheRacingTaskWrong)

end Rows
end Go.Proofs.Qxb6600018a
