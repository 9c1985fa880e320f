/-
  No cell of these rows narrows 'for every input' (looked for: loops, veiled, ifaces, maps, wideKeys, modest, calm, conditions, laid).
  DERIVED. THE GIVEN ROWS OF THIS SEAT. 8 by the template 'for every input the law returns true; each argument reads behind the call as it read before'; 0 by the template 'total and deterministic' (their statements: Qxb6613076aTotals.lean).
  GIVEN WITH THE SEED: the statements are not yours to turn. If you find one false, say at which input.
  Laid BY PROGRAM, IN A SANDBOX (cutbox-rows.mjs): the forced cells as the released guide's own fill.sh prints them over the translation 1e0082e2141f1b83… (all of the seat's roots in one cut). By AI agents, Wed Nov 11 2026. No macro, syntax, notation, axiom, sorry.
-/
import Derived.Test.Qxb6613076aChecked
import GoSem.Claim
import GoSem.ClaimJoined
import GoSem.ClaimMapViews
import Derived.JoinedTies
import Derived.KernelRfl
namespace Go.Proofs.Qxb6613076a
/- THE CELL 'sum', in the pinned program and in every row, IS THE sha256 OF THE DUMP (.gsa) THAT Qxb6613076aProg.lean LOADS. Nothing in Lean hashes anything: it is a label: what it is worth is what the hold of that sum in a sandbox is worth. -/
noncomputable def Try.pinned : Pinned := { name := "qxb6613076a", sum := "1e0082e2141f1b83f6e6394d6300a0e854b973977356e5393b328085da11d02d", checked := Try.checked }
namespace Rows
def none {H : Type} : Left H := { results := [], args := [] }

/-- 'zzlaws_root_b1.FnHeldForgetAtIsLatestOfStateAndStandingClaims': WHATEVER THE INPUT: true; the input reads as it did. -/
def fnHeldForgetAtIsLatestOfStateAndStandingClaimsSpec : ChangeSpec := { name := "fnHeldForgetAtIsLatestOfStateAndStandingClaims", fn := fun _ => fun
  | [d1, d2, d3, d4, d5, d6] => { results := [.lit (.bool true)], args := [d1, d2, d3, d4, d5, d6] }
  | _ => none }
def fnHeldForgetAtIsLatestOfStateAndStandingClaimsRow : OpenClaim := { program := "qxb6613076a", sum := "1e0082e2141f1b83f6e6394d6300a0e854b973977356e5393b328085da11d02d", func := "example.com/tidegate/tidegate/zzlaws_root_b1.FnHeldForgetAtIsLatestOfStateAndStandingClaims", spec := "fnHeldForgetAtIsLatestOfStateAndStandingClaims", unfollowed := true, recurses := true, apart := false }
def FnHeldForgetAtIsLatestOfStateAndStandingClaimsSaid : Prop := fnHeldForgetAtIsLatestOfStateAndStandingClaimsRow.holds Try.pinned (OpenSpec.ofChange fnHeldForgetAtIsLatestOfStateAndStandingClaimsSpec)

/-- ITS FALSE NEIGHBOUR: 'it returns false'. Refute it at one input. -/
def fnHeldForgetAtIsLatestOfStateAndStandingClaimsWrong : ChangeSpec := { name := "fnHeldForgetAtIsLatestOfStateAndStandingClaims", fn := fun _ => fun
  | [d1, d2, d3, d4, d5, d6] => { results := [.lit (.bool false)], args := [d1, d2, d3, d4, d5, d6] }
  | _ => none }
def FnHeldForgetAtIsLatestOfStateAndStandingClaimsWrongFalsely : Prop := fnHeldForgetAtIsLatestOfStateAndStandingClaimsRow.holds Try.pinned (OpenSpec.ofChange fnHeldForgetAtIsLatestOfStateAndStandingClaimsWrong)

/-- 'zzlaws_root_b1.FnHeldForgetAtEarlierFloorFirstChangesNothing': WHATEVER THE INPUT: true; the input reads as it did. -/
def fnHeldForgetAtEarlierFloorFirstChangesNothingSpec : ChangeSpec := { name := "fnHeldForgetAtEarlierFloorFirstChangesNothing", fn := fun _ => fun
  | [d1, d2, d3, d4, d5, d6, d7] => { results := [.lit (.bool true)], args := [d1, d2, d3, d4, d5, d6, d7] }
  | _ => none }
def fnHeldForgetAtEarlierFloorFirstChangesNothingRow : OpenClaim := { program := "qxb6613076a", sum := "1e0082e2141f1b83f6e6394d6300a0e854b973977356e5393b328085da11d02d", func := "example.com/tidegate/tidegate/zzlaws_root_b1.FnHeldForgetAtEarlierFloorFirstChangesNothing", spec := "fnHeldForgetAtEarlierFloorFirstChangesNothing", unfollowed := true, recurses := true, apart := false }
def FnHeldForgetAtEarlierFloorFirstChangesNothingSaid : Prop := fnHeldForgetAtEarlierFloorFirstChangesNothingRow.holds Try.pinned (OpenSpec.ofChange fnHeldForgetAtEarlierFloorFirstChangesNothingSpec)

/-- ITS FALSE NEIGHBOUR: 'it returns false'. Refute it at one input. -/
def fnHeldForgetAtEarlierFloorFirstChangesNothingWrong : ChangeSpec := { name := "fnHeldForgetAtEarlierFloorFirstChangesNothing", fn := fun _ => fun
  | [d1, d2, d3, d4, d5, d6, d7] => { results := [.lit (.bool false)], args := [d1, d2, d3, d4, d5, d6, d7] }
  | _ => none }
def FnHeldForgetAtEarlierFloorFirstChangesNothingWrongFalsely : Prop := fnHeldForgetAtEarlierFloorFirstChangesNothingRow.holds Try.pinned (OpenSpec.ofChange fnHeldForgetAtEarlierFloorFirstChangesNothingWrong)

/-- 'zzlaws_root_b1.FnForgetQueueLessIsStrictOrderOfForgetTimes': WHATEVER THE INPUT: true; the input reads as it did. -/
def fnForgetQueueLessIsStrictOrderOfForgetTimesSpec : ChangeSpec := { name := "fnForgetQueueLessIsStrictOrderOfForgetTimes", fn := fun _ => fun
  | [d1, d2, d3, d4] => { results := [.lit (.bool true)], args := [d1, d2, d3, d4] }
  | _ => none }
def fnForgetQueueLessIsStrictOrderOfForgetTimesRow : OpenClaim := { program := "qxb6613076a", sum := "1e0082e2141f1b83f6e6394d6300a0e854b973977356e5393b328085da11d02d", func := "example.com/tidegate/tidegate/zzlaws_root_b1.FnForgetQueueLessIsStrictOrderOfForgetTimes", spec := "fnForgetQueueLessIsStrictOrderOfForgetTimes", apart := false }
def FnForgetQueueLessIsStrictOrderOfForgetTimesSaid : Prop := fnForgetQueueLessIsStrictOrderOfForgetTimesRow.holds Try.pinned (OpenSpec.ofChange fnForgetQueueLessIsStrictOrderOfForgetTimesSpec)

/-- ITS FALSE NEIGHBOUR: 'it returns false'. Refute it at one input. -/
def fnForgetQueueLessIsStrictOrderOfForgetTimesWrong : ChangeSpec := { name := "fnForgetQueueLessIsStrictOrderOfForgetTimes", fn := fun _ => fun
  | [d1, d2, d3, d4] => { results := [.lit (.bool false)], args := [d1, d2, d3, d4] }
  | _ => none }
def FnForgetQueueLessIsStrictOrderOfForgetTimesWrongFalsely : Prop := fnForgetQueueLessIsStrictOrderOfForgetTimesRow.holds Try.pinned (OpenSpec.ofChange fnForgetQueueLessIsStrictOrderOfForgetTimesWrong)

/-- 'zzlaws_root_b1.FnForgetQueueLessScanFindsSoonest': WHATEVER THE INPUT: true; the input reads as it did. -/
def fnForgetQueueLessScanFindsSoonestSpec : ChangeSpec := { name := "fnForgetQueueLessScanFindsSoonest", fn := fun _ => fun
  | [d] => { results := [.lit (.bool true)], args := [d] }
  | _ => none }
def fnForgetQueueLessScanFindsSoonestRow : OpenClaim := { program := "qxb6613076a", sum := "1e0082e2141f1b83f6e6394d6300a0e854b973977356e5393b328085da11d02d", func := "example.com/tidegate/tidegate/zzlaws_root_b1.FnForgetQueueLessScanFindsSoonest", spec := "fnForgetQueueLessScanFindsSoonest", apart := false }
def FnForgetQueueLessScanFindsSoonestSaid : Prop := fnForgetQueueLessScanFindsSoonestRow.holds Try.pinned (OpenSpec.ofChange fnForgetQueueLessScanFindsSoonestSpec)

/-- ITS FALSE NEIGHBOUR: 'it returns false'. Refute it at one input. -/
def fnForgetQueueLessScanFindsSoonestWrong : ChangeSpec := { name := "fnForgetQueueLessScanFindsSoonest", fn := fun _ => fun
  | [d] => { results := [.lit (.bool false)], args := [d] }
  | _ => none }
def FnForgetQueueLessScanFindsSoonestWrongFalsely : Prop := fnForgetQueueLessScanFindsSoonestRow.holds Try.pinned (OpenSpec.ofChange fnForgetQueueLessScanFindsSoonestWrong)

/-- 'zzlaws_root_b1.FnBucketTakeMatchesTokenModel': WHATEVER THE INPUT: true; the input reads as it did. -/
def fnBucketTakeMatchesTokenModelSpec : ChangeSpec := { name := "fnBucketTakeMatchesTokenModel", fn := fun _ => fun
  | [d1, d2, d3, d4, d5, d6, d7, d8, d9] => { results := [.lit (.bool true)], args := [d1, d2, d3, d4, d5, d6, d7, d8, d9] }
  | _ => none }
def fnBucketTakeMatchesTokenModelRow : OpenClaim := { program := "qxb6613076a", sum := "1e0082e2141f1b83f6e6394d6300a0e854b973977356e5393b328085da11d02d", func := "example.com/tidegate/tidegate/zzlaws_root_b1.FnBucketTakeMatchesTokenModel", spec := "fnBucketTakeMatchesTokenModel", inPlace := ["math/bits.Sub64", "math/bits.Add64"], named := ["math/bits.divideError", "math/bits.overflowError"], apart := false }
def FnBucketTakeMatchesTokenModelSaid : Prop := fnBucketTakeMatchesTokenModelRow.holds Try.pinned (OpenSpec.ofChange fnBucketTakeMatchesTokenModelSpec)

/-- ITS FALSE NEIGHBOUR: 'it returns false'. Refute it at one input. -/
def fnBucketTakeMatchesTokenModelWrong : ChangeSpec := { name := "fnBucketTakeMatchesTokenModel", fn := fun _ => fun
  | [d1, d2, d3, d4, d5, d6, d7, d8, d9] => { results := [.lit (.bool false)], args := [d1, d2, d3, d4, d5, d6, d7, d8, d9] }
  | _ => none }
def FnBucketTakeMatchesTokenModelWrongFalsely : Prop := fnBucketTakeMatchesTokenModelRow.holds Try.pinned (OpenSpec.ofChange fnBucketTakeMatchesTokenModelWrong)

/-- 'zzlaws_root_b1.FnBucketTakeRemainingAndWaitAreExact': WHATEVER THE INPUT: true; the input reads as it did. -/
def fnBucketTakeRemainingAndWaitAreExactSpec : ChangeSpec := { name := "fnBucketTakeRemainingAndWaitAreExact", fn := fun _ => fun
  | [d1, d2, d3, d4, d5, d6, d7, d8, d9] => { results := [.lit (.bool true)], args := [d1, d2, d3, d4, d5, d6, d7, d8, d9] }
  | _ => none }
def fnBucketTakeRemainingAndWaitAreExactRow : OpenClaim := { program := "qxb6613076a", sum := "1e0082e2141f1b83f6e6394d6300a0e854b973977356e5393b328085da11d02d", func := "example.com/tidegate/tidegate/zzlaws_root_b1.FnBucketTakeRemainingAndWaitAreExact", spec := "fnBucketTakeRemainingAndWaitAreExact", inPlace := ["math/bits.Sub64", "math/bits.Add64"], named := ["math/bits.divideError", "math/bits.overflowError"], apart := false }
def FnBucketTakeRemainingAndWaitAreExactSaid : Prop := fnBucketTakeRemainingAndWaitAreExactRow.holds Try.pinned (OpenSpec.ofChange fnBucketTakeRemainingAndWaitAreExactSpec)

/-- ITS FALSE NEIGHBOUR: 'it returns false'. Refute it at one input. -/
def fnBucketTakeRemainingAndWaitAreExactWrong : ChangeSpec := { name := "fnBucketTakeRemainingAndWaitAreExact", fn := fun _ => fun
  | [d1, d2, d3, d4, d5, d6, d7, d8, d9] => { results := [.lit (.bool false)], args := [d1, d2, d3, d4, d5, d6, d7, d8, d9] }
  | _ => none }
def FnBucketTakeRemainingAndWaitAreExactWrongFalsely : Prop := fnBucketTakeRemainingAndWaitAreExactRow.holds Try.pinned (OpenSpec.ofChange fnBucketTakeRemainingAndWaitAreExactWrong)

/-- 'zzlaws_root_b1.FnWindowIsTheBucketRefillPeriod': WHATEVER THE INPUT: true; the input reads as it did. -/
def fnWindowIsTheBucketRefillPeriodSpec : ChangeSpec := { name := "fnWindowIsTheBucketRefillPeriod", fn := fun _ => fun
  | [d1, d2, d3, d4] => { results := [.lit (.bool true)], args := [d1, d2, d3, d4] }
  | _ => none }
def fnWindowIsTheBucketRefillPeriodRow : OpenClaim := { program := "qxb6613076a", sum := "1e0082e2141f1b83f6e6394d6300a0e854b973977356e5393b328085da11d02d", func := "example.com/tidegate/tidegate/zzlaws_root_b1.FnWindowIsTheBucketRefillPeriod", spec := "fnWindowIsTheBucketRefillPeriod", inPlace := ["math/bits.Sub64", "math/bits.Add64"], named := ["math/bits.divideError", "math/bits.overflowError"], apart := false }
def FnWindowIsTheBucketRefillPeriodSaid : Prop := fnWindowIsTheBucketRefillPeriodRow.holds Try.pinned (OpenSpec.ofChange fnWindowIsTheBucketRefillPeriodSpec)

/-- ITS FALSE NEIGHBOUR: 'it returns false'. Refute it at one input. -/
def fnWindowIsTheBucketRefillPeriodWrong : ChangeSpec := { name := "fnWindowIsTheBucketRefillPeriod", fn := fun _ => fun
  | [d1, d2, d3, d4] => { results := [.lit (.bool false)], args := [d1, d2, d3, d4] }
  | _ => none }
def FnWindowIsTheBucketRefillPeriodWrongFalsely : Prop := fnWindowIsTheBucketRefillPeriodRow.holds Try.pinned (OpenSpec.ofChange fnWindowIsTheBucketRefillPeriodWrong)

/-- 'zzlaws_root_b1.FnWindowIsHowLongASlidingTakeCounts': WHATEVER THE INPUT: true; the input reads as it did. -/
def fnWindowIsHowLongASlidingTakeCountsSpec : ChangeSpec := { name := "fnWindowIsHowLongASlidingTakeCounts", fn := fun _ => fun
  | [d1, d2, d3] => { results := [.lit (.bool true)], args := [d1, d2, d3] }
  | _ => none }
def fnWindowIsHowLongASlidingTakeCountsRow : OpenClaim := { program := "qxb6613076a", sum := "1e0082e2141f1b83f6e6394d6300a0e854b973977356e5393b328085da11d02d", func := "example.com/tidegate/tidegate/zzlaws_root_b1.FnWindowIsHowLongASlidingTakeCounts", spec := "fnWindowIsHowLongASlidingTakeCounts", unfollowed := true, recurses := true, apart := false }
def FnWindowIsHowLongASlidingTakeCountsSaid : Prop := fnWindowIsHowLongASlidingTakeCountsRow.holds Try.pinned (OpenSpec.ofChange fnWindowIsHowLongASlidingTakeCountsSpec)

/-- ITS FALSE NEIGHBOUR: 'it returns false'. Refute it at one input. -/
def fnWindowIsHowLongASlidingTakeCountsWrong : ChangeSpec := { name := "fnWindowIsHowLongASlidingTakeCounts", fn := fun _ => fun
  | [d1, d2, d3] => { results := [.lit (.bool false)], args := [d1, d2, d3] }
  | _ => none }
def FnWindowIsHowLongASlidingTakeCountsWrongFalsely : Prop := fnWindowIsHowLongASlidingTakeCountsRow.holds Try.pinned (OpenSpec.ofChange fnWindowIsHowLongASlidingTakeCountsWrong)

end Rows
end Go.Proofs.Qxb6613076a
