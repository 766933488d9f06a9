/-
  No cell of these rows narrows 'for every input' (looked for: loops, veiled, ifaces, maps, wideKeys, modest, calm, conditions, laid).
  DERIVED. THE GIVEN ROWS OF THIS SEAT. 6 by the template 'for every input the law returns true; each argument reads behind the call as it read before'; 0 by the template 'total and deterministic' (their statements: Qxb6001298aTotals.lean).
  GIVEN WITH THE SEED: the statements are not yours to turn. If you find one false, say at which input.
  Laid BY PROGRAM, IN A SANDBOX (cutbox-rows.mjs): the forced cells as the released guide's own fill.sh prints them over the translation 8b478ea89e804c66… (all of the seat's roots in one cut). By AI agents, Wed Nov 11 2026. No macro, syntax, notation, axiom, sorry.
-/
import Derived.Test.Qxb6001298aChecked
import GoSem.Claim
import GoSem.ClaimJoined
import GoSem.ClaimMapViews
import Derived.JoinedTies
import Derived.KernelRfl
namespace Go.Proofs.Qxb6001298a
/- THE CELL 'sum', in the pinned program and in every row, IS THE sha256 OF THE DUMP (.gsa) THAT Qxb6001298aProg.lean LOADS. Nothing in Lean hashes anything: it is a label: what it is worth is what the hold of that sum in a sandbox is worth. -/
noncomputable def Try.pinned : Pinned := { name := "qxb6001298a", sum := "8b478ea89e804c662bb97832356ac47037e17a5a4b9cdefaf86afeda64e5e7c1", checked := Try.checked }
namespace Rows
def none {H : Type} : Left H := { results := [], args := [] }

/-- 'zzlaws_internal_membership_b1.FnRingOrderReordersByPositionAlone': WHATEVER THE INPUT: true; the input reads as it did. -/
def fnRingOrderReordersByPositionAloneSpec : ChangeSpec := { name := "fnRingOrderReordersByPositionAlone", fn := fun _ => fun
  | [d1, d2] => { results := [.lit (.bool true)], args := [d1, d2] }
  | _ => none }
def fnRingOrderReordersByPositionAloneRow : OpenClaim := { program := "qxb6001298a", sum := "8b478ea89e804c662bb97832356ac47037e17a5a4b9cdefaf86afeda64e5e7c1", func := "example.com/witan/witan/zzlaws_internal_membership_b1.FnRingOrderReordersByPositionAlone", spec := "fnRingOrderReordersByPositionAlone", unfollowed := true, recurses := true, apart := false }
def FnRingOrderReordersByPositionAloneSaid : Prop := fnRingOrderReordersByPositionAloneRow.holds Try.pinned (OpenSpec.ofChange fnRingOrderReordersByPositionAloneSpec)

/-- ITS FALSE NEIGHBOUR: 'it returns false'. Refute it at one input. -/
def fnRingOrderReordersByPositionAloneWrong : ChangeSpec := { name := "fnRingOrderReordersByPositionAlone", fn := fun _ => fun
  | [d1, d2] => { results := [.lit (.bool false)], args := [d1, d2] }
  | _ => none }
def FnRingOrderReordersByPositionAloneWrongFalsely : Prop := fnRingOrderReordersByPositionAloneRow.holds Try.pinned (OpenSpec.ofChange fnRingOrderReordersByPositionAloneWrong)

/-- 'zzlaws_internal_membership_b1.FnRingOrderTurnsHoldEveryLinkBothWays': WHATEVER THE INPUT: true; the input reads as it did. -/
def fnRingOrderTurnsHoldEveryLinkBothWaysSpec : ChangeSpec := { name := "fnRingOrderTurnsHoldEveryLinkBothWays", fn := fun _ => fun
  | [d1, d2] => { results := [.lit (.bool true)], args := [d1, d2] }
  | _ => none }
def fnRingOrderTurnsHoldEveryLinkBothWaysRow : OpenClaim := { program := "qxb6001298a", sum := "8b478ea89e804c662bb97832356ac47037e17a5a4b9cdefaf86afeda64e5e7c1", func := "example.com/witan/witan/zzlaws_internal_membership_b1.FnRingOrderTurnsHoldEveryLinkBothWays", spec := "fnRingOrderTurnsHoldEveryLinkBothWays", unfollowed := true, recurses := true, apart := false }
def FnRingOrderTurnsHoldEveryLinkBothWaysSaid : Prop := fnRingOrderTurnsHoldEveryLinkBothWaysRow.holds Try.pinned (OpenSpec.ofChange fnRingOrderTurnsHoldEveryLinkBothWaysSpec)

/-- ITS FALSE NEIGHBOUR: 'it returns false'. Refute it at one input. -/
def fnRingOrderTurnsHoldEveryLinkBothWaysWrong : ChangeSpec := { name := "fnRingOrderTurnsHoldEveryLinkBothWays", fn := fun _ => fun
  | [d1, d2] => { results := [.lit (.bool false)], args := [d1, d2] }
  | _ => none }
def FnRingOrderTurnsHoldEveryLinkBothWaysWrongFalsely : Prop := fnRingOrderTurnsHoldEveryLinkBothWaysRow.holds Try.pinned (OpenSpec.ofChange fnRingOrderTurnsHoldEveryLinkBothWaysWrong)

/-- 'zzlaws_internal_membership_b1.FnRingOrderNextTurnMovesFewBehind': WHATEVER THE INPUT: true; the input reads as it did. -/
def fnRingOrderNextTurnMovesFewBehindSpec : ChangeSpec := { name := "fnRingOrderNextTurnMovesFewBehind", fn := fun _ => fun
  | [d1, d2] => { results := [.lit (.bool true)], args := [d1, d2] }
  | _ => none }
def fnRingOrderNextTurnMovesFewBehindRow : OpenClaim := { program := "qxb6001298a", sum := "8b478ea89e804c662bb97832356ac47037e17a5a4b9cdefaf86afeda64e5e7c1", func := "example.com/witan/witan/zzlaws_internal_membership_b1.FnRingOrderNextTurnMovesFewBehind", spec := "fnRingOrderNextTurnMovesFewBehind", unfollowed := true, recurses := true, apart := false }
def FnRingOrderNextTurnMovesFewBehindSaid : Prop := fnRingOrderNextTurnMovesFewBehindRow.holds Try.pinned (OpenSpec.ofChange fnRingOrderNextTurnMovesFewBehindSpec)

/-- ITS FALSE NEIGHBOUR: 'it returns false'. Refute it at one input. -/
def fnRingOrderNextTurnMovesFewBehindWrong : ChangeSpec := { name := "fnRingOrderNextTurnMovesFewBehind", fn := fun _ => fun
  | [d1, d2] => { results := [.lit (.bool false)], args := [d1, d2] }
  | _ => none }
def FnRingOrderNextTurnMovesFewBehindWrongFalsely : Prop := fnRingOrderNextTurnMovesFewBehindRow.holds Try.pinned (OpenSpec.ofChange fnRingOrderNextTurnMovesFewBehindWrong)

/-- 'zzlaws_internal_membership_b1.FnUnfencedSinceNoneWhenRecordsAgree': WHATEVER THE INPUT: true; the input reads as it did. -/
def fnUnfencedSinceNoneWhenRecordsAgreeSpec : ChangeSpec := { name := "fnUnfencedSinceNoneWhenRecordsAgree", fn := fun _ => fun
  | [d1, d2, d3, d4] => { results := [.lit (.bool true)], args := [d1, d2, d3, d4] }
  | _ => none }
def fnUnfencedSinceNoneWhenRecordsAgreeRow : OpenClaim := { program := "qxb6001298a", sum := "8b478ea89e804c662bb97832356ac47037e17a5a4b9cdefaf86afeda64e5e7c1", func := "example.com/witan/witan/zzlaws_internal_membership_b1.FnUnfencedSinceNoneWhenRecordsAgree", spec := "fnUnfencedSinceNoneWhenRecordsAgree", unfollowed := true, recurses := true, apart := false }
def FnUnfencedSinceNoneWhenRecordsAgreeSaid : Prop := fnUnfencedSinceNoneWhenRecordsAgreeRow.holds Try.pinned (OpenSpec.ofChange fnUnfencedSinceNoneWhenRecordsAgreeSpec)

/-- ITS FALSE NEIGHBOUR: 'it returns false'. Refute it at one input. -/
def fnUnfencedSinceNoneWhenRecordsAgreeWrong : ChangeSpec := { name := "fnUnfencedSinceNoneWhenRecordsAgree", fn := fun _ => fun
  | [d1, d2, d3, d4] => { results := [.lit (.bool false)], args := [d1, d2, d3, d4] }
  | _ => none }
def FnUnfencedSinceNoneWhenRecordsAgreeWrongFalsely : Prop := fnUnfencedSinceNoneWhenRecordsAgreeRow.holds Try.pinned (OpenSpec.ofChange fnUnfencedSinceNoneWhenRecordsAgreeWrong)

/-- 'zzlaws_internal_membership_b1.FnUnfencedSinceAppendTellsOnlyTheNewPlace': WHATEVER THE INPUT: true; the input reads as it did. -/
def fnUnfencedSinceAppendTellsOnlyTheNewPlaceSpec : ChangeSpec := { name := "fnUnfencedSinceAppendTellsOnlyTheNewPlace", fn := fun _ => fun
  | [d1, d2, d3, d4, d5] => { results := [.lit (.bool true)], args := [d1, d2, d3, d4, d5] }
  | _ => none }
def fnUnfencedSinceAppendTellsOnlyTheNewPlaceRow : OpenClaim := { program := "qxb6001298a", sum := "8b478ea89e804c662bb97832356ac47037e17a5a4b9cdefaf86afeda64e5e7c1", func := "example.com/witan/witan/zzlaws_internal_membership_b1.FnUnfencedSinceAppendTellsOnlyTheNewPlace", spec := "fnUnfencedSinceAppendTellsOnlyTheNewPlace", unfollowed := true, recurses := true, apart := false }
def FnUnfencedSinceAppendTellsOnlyTheNewPlaceSaid : Prop := fnUnfencedSinceAppendTellsOnlyTheNewPlaceRow.holds Try.pinned (OpenSpec.ofChange fnUnfencedSinceAppendTellsOnlyTheNewPlaceSpec)

/-- ITS FALSE NEIGHBOUR: 'it returns false'. Refute it at one input. -/
def fnUnfencedSinceAppendTellsOnlyTheNewPlaceWrong : ChangeSpec := { name := "fnUnfencedSinceAppendTellsOnlyTheNewPlace", fn := fun _ => fun
  | [d1, d2, d3, d4, d5] => { results := [.lit (.bool false)], args := [d1, d2, d3, d4, d5] }
  | _ => none }
def FnUnfencedSinceAppendTellsOnlyTheNewPlaceWrongFalsely : Prop := fnUnfencedSinceAppendTellsOnlyTheNewPlaceRow.holds Try.pinned (OpenSpec.ofChange fnUnfencedSinceAppendTellsOnlyTheNewPlaceWrong)

/-- 'zzlaws_internal_membership_b1.FnUnfencedSinceEntriesAreTrueDisagreements': WHATEVER THE INPUT: true; the input reads as it did. -/
def fnUnfencedSinceEntriesAreTrueDisagreementsSpec : ChangeSpec := { name := "fnUnfencedSinceEntriesAreTrueDisagreements", fn := fun _ => fun
  | [d1, d2, d3, d4] => { results := [.lit (.bool true)], args := [d1, d2, d3, d4] }
  | _ => none }
def fnUnfencedSinceEntriesAreTrueDisagreementsRow : OpenClaim := { program := "qxb6001298a", sum := "8b478ea89e804c662bb97832356ac47037e17a5a4b9cdefaf86afeda64e5e7c1", func := "example.com/witan/witan/zzlaws_internal_membership_b1.FnUnfencedSinceEntriesAreTrueDisagreements", spec := "fnUnfencedSinceEntriesAreTrueDisagreements", unfollowed := true, recurses := true, apart := false }
def FnUnfencedSinceEntriesAreTrueDisagreementsSaid : Prop := fnUnfencedSinceEntriesAreTrueDisagreementsRow.holds Try.pinned (OpenSpec.ofChange fnUnfencedSinceEntriesAreTrueDisagreementsSpec)

/-- ITS FALSE NEIGHBOUR: 'it returns false'. Refute it at one input. -/
def fnUnfencedSinceEntriesAreTrueDisagreementsWrong : ChangeSpec := { name := "fnUnfencedSinceEntriesAreTrueDisagreements", fn := fun _ => fun
  | [d1, d2, d3, d4] => { results := [.lit (.bool false)], args := [d1, d2, d3, d4] }
  | _ => none }
def FnUnfencedSinceEntriesAreTrueDisagreementsWrongFalsely : Prop := fnUnfencedSinceEntriesAreTrueDisagreementsRow.holds Try.pinned (OpenSpec.ofChange fnUnfencedSinceEntriesAreTrueDisagreementsWrong)

end Rows
end Go.Proofs.Qxb6001298a
