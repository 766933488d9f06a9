/-
  No cell of these rows narrows 'for every input' (looked for: loops, veiled, ifaces, maps, wideKeys, modest, calm, conditions, laid).
  DERIVED. THE GIVEN ROWS OF THIS SEAT. 8 by the template 'for every input the law returns true; each argument reads behind the call as it read before'; 0 by the template 'total and deterministic' (their statements: Qxb6001005aTotals.lean).
  GIVEN WITH THE SEED: the statements are not yours to turn. If you find one false, say at which input.
  Laid BY PROGRAM, IN A SANDBOX (cutbox-rows.mjs): the forced cells as the released guide's own fill.sh prints them over the translation a03377b362d37431… (all of the seat's roots in one cut). By AI agents, Wed Nov 11 2026. No macro, syntax, notation, axiom, sorry.
-/
import Derived.Test.Qxb6001005aChecked
import GoSem.Claim
import GoSem.ClaimJoined
import GoSem.ClaimMapViews
import Derived.JoinedTies
import Derived.KernelRfl
namespace Go.Proofs.Qxb6001005a
/- THE CELL 'sum', in the pinned program and in every row, IS THE sha256 OF THE DUMP (.gsa) THAT Qxb6001005aProg.lean LOADS. Nothing in Lean hashes anything: it is a label: what it is worth is what the hold of that sum in a sandbox is worth. -/
noncomputable def Try.pinned : Pinned := { name := "qxb6001005a", sum := "a03377b362d37431b7b638868973697ebf7cb6b69d3de33944f2d22420175cc8", checked := Try.checked }
namespace Rows
def none {H : Type} : Left H := { results := [], args := [] }

/-- 'zzlaws_root_b1.FnUntilSecondsIsLeastWholeSecond': WHATEVER THE INPUT: true; the input reads as it did. -/
def fnUntilSecondsIsLeastWholeSecondSpec : ChangeSpec := { name := "fnUntilSecondsIsLeastWholeSecond", fn := fun _ => fun
  | [d1, d2, d3, d4, d5] => { results := [.lit (.bool true)], args := [d1, d2, d3, d4, d5] }
  | _ => none }
def fnUntilSecondsIsLeastWholeSecondRow : OpenClaim := { program := "qxb6001005a", sum := "a03377b362d37431b7b638868973697ebf7cb6b69d3de33944f2d22420175cc8", func := "example.com/sluicegate/sluicegate/zzlaws_root_b1.FnUntilSecondsIsLeastWholeSecond", spec := "fnUntilSecondsIsLeastWholeSecond", apart := false }
def FnUntilSecondsIsLeastWholeSecondSaid : Prop := fnUntilSecondsIsLeastWholeSecondRow.holds Try.pinned (OpenSpec.ofChange fnUntilSecondsIsLeastWholeSecondSpec)

/-- ITS FALSE NEIGHBOUR: 'it returns false'. Refute it at one input. -/
def fnUntilSecondsIsLeastWholeSecondWrong : ChangeSpec := { name := "fnUntilSecondsIsLeastWholeSecond", fn := fun _ => fun
  | [d1, d2, d3, d4, d5] => { results := [.lit (.bool false)], args := [d1, d2, d3, d4, d5] }
  | _ => none }
def FnUntilSecondsIsLeastWholeSecondWrongFalsely : Prop := fnUntilSecondsIsLeastWholeSecondRow.holds Try.pinned (OpenSpec.ofChange fnUntilSecondsIsLeastWholeSecondWrong)

/-- 'zzlaws_root_b1.FnUntilShiftBySecondsShiftsAt': WHATEVER THE INPUT: true; the input reads as it did. -/
def fnUntilShiftBySecondsShiftsAtSpec : ChangeSpec := { name := "fnUntilShiftBySecondsShiftsAt", fn := fun _ => fun
  | [d1, d2, d3, d4, d5, d6] => { results := [.lit (.bool true)], args := [d1, d2, d3, d4, d5, d6] }
  | _ => none }
def fnUntilShiftBySecondsShiftsAtRow : OpenClaim := { program := "qxb6001005a", sum := "a03377b362d37431b7b638868973697ebf7cb6b69d3de33944f2d22420175cc8", func := "example.com/sluicegate/sluicegate/zzlaws_root_b1.FnUntilShiftBySecondsShiftsAt", spec := "fnUntilShiftBySecondsShiftsAt", apart := false }
def FnUntilShiftBySecondsShiftsAtSaid : Prop := fnUntilShiftBySecondsShiftsAtRow.holds Try.pinned (OpenSpec.ofChange fnUntilShiftBySecondsShiftsAtSpec)

/-- ITS FALSE NEIGHBOUR: 'it returns false'. Refute it at one input. -/
def fnUntilShiftBySecondsShiftsAtWrong : ChangeSpec := { name := "fnUntilShiftBySecondsShiftsAt", fn := fun _ => fun
  | [d1, d2, d3, d4, d5, d6] => { results := [.lit (.bool false)], args := [d1, d2, d3, d4, d5, d6] }
  | _ => none }
def FnUntilShiftBySecondsShiftsAtWrongFalsely : Prop := fnUntilShiftBySecondsShiftsAtRow.holds Try.pinned (OpenSpec.ofChange fnUntilShiftBySecondsShiftsAtWrong)

/-- 'zzlaws_root_b1.FnUntilMonotoneAndAlignedStart': WHATEVER THE INPUT: true; the input reads as it did. -/
def fnUntilMonotoneAndAlignedStartSpec : ChangeSpec := { name := "fnUntilMonotoneAndAlignedStart", fn := fun _ => fun
  | [d1, d2, d3, d4, d5, d6, d7] => { results := [.lit (.bool true)], args := [d1, d2, d3, d4, d5, d6, d7] }
  | _ => none }
def fnUntilMonotoneAndAlignedStartRow : OpenClaim := { program := "qxb6001005a", sum := "a03377b362d37431b7b638868973697ebf7cb6b69d3de33944f2d22420175cc8", func := "example.com/sluicegate/sluicegate/zzlaws_root_b1.FnUntilMonotoneAndAlignedStart", spec := "fnUntilMonotoneAndAlignedStart", apart := false }
def FnUntilMonotoneAndAlignedStartSaid : Prop := fnUntilMonotoneAndAlignedStartRow.holds Try.pinned (OpenSpec.ofChange fnUntilMonotoneAndAlignedStartSpec)

/-- ITS FALSE NEIGHBOUR: 'it returns false'. Refute it at one input. -/
def fnUntilMonotoneAndAlignedStartWrong : ChangeSpec := { name := "fnUntilMonotoneAndAlignedStart", fn := fun _ => fun
  | [d1, d2, d3, d4, d5, d6, d7] => { results := [.lit (.bool false)], args := [d1, d2, d3, d4, d5, d6, d7] }
  | _ => none }
def FnUntilMonotoneAndAlignedStartWrongFalsely : Prop := fnUntilMonotoneAndAlignedStartRow.holds Try.pinned (OpenSpec.ofChange fnUntilMonotoneAndAlignedStartWrong)

/-- 'zzlaws_root_b1.FnValidNameConcat': WHATEVER THE INPUT: true; the input reads as it did. -/
def fnValidNameConcatSpec : ChangeSpec := { name := "fnValidNameConcat", fn := fun _ => fun
  | [d1, d2] => { results := [.lit (.bool true)], args := [d1, d2] }
  | _ => none }
def fnValidNameConcatRow : OpenClaim := { program := "qxb6001005a", sum := "a03377b362d37431b7b638868973697ebf7cb6b69d3de33944f2d22420175cc8", func := "example.com/sluicegate/sluicegate/zzlaws_root_b1.FnValidNameConcat", spec := "fnValidNameConcat", apart := false }
def FnValidNameConcatSaid : Prop := fnValidNameConcatRow.holds Try.pinned (OpenSpec.ofChange fnValidNameConcatSpec)

/-- ITS FALSE NEIGHBOUR: 'it returns false'. Refute it at one input. -/
def fnValidNameConcatWrong : ChangeSpec := { name := "fnValidNameConcat", fn := fun _ => fun
  | [d1, d2] => { results := [.lit (.bool false)], args := [d1, d2] }
  | _ => none }
def FnValidNameConcatWrongFalsely : Prop := fnValidNameConcatRow.holds Try.pinned (OpenSpec.ofChange fnValidNameConcatWrong)

/-- 'zzlaws_root_b1.FnValidNameSubstring': WHATEVER THE INPUT: true; the input reads as it did. -/
def fnValidNameSubstringSpec : ChangeSpec := { name := "fnValidNameSubstring", fn := fun _ => fun
  | [d1, d2, d3] => { results := [.lit (.bool true)], args := [d1, d2, d3] }
  | _ => none }
def fnValidNameSubstringRow : OpenClaim := { program := "qxb6001005a", sum := "a03377b362d37431b7b638868973697ebf7cb6b69d3de33944f2d22420175cc8", func := "example.com/sluicegate/sluicegate/zzlaws_root_b1.FnValidNameSubstring", spec := "fnValidNameSubstring", apart := false }
def FnValidNameSubstringSaid : Prop := fnValidNameSubstringRow.holds Try.pinned (OpenSpec.ofChange fnValidNameSubstringSpec)

/-- ITS FALSE NEIGHBOUR: 'it returns false'. Refute it at one input. -/
def fnValidNameSubstringWrong : ChangeSpec := { name := "fnValidNameSubstring", fn := fun _ => fun
  | [d1, d2, d3] => { results := [.lit (.bool false)], args := [d1, d2, d3] }
  | _ => none }
def FnValidNameSubstringWrongFalsely : Prop := fnValidNameSubstringRow.holds Try.pinned (OpenSpec.ofChange fnValidNameSubstringWrong)

/-- 'zzlaws_root_b1.FnPlaceFillsFirstEmptyFromHome': WHATEVER THE INPUT: true; the input reads as it did. -/
def fnPlaceFillsFirstEmptyFromHomeSpec : ChangeSpec := { name := "fnPlaceFillsFirstEmptyFromHome", fn := fun _ => fun
  | [d1, d2, d3] => { results := [.lit (.bool true)], args := [d1, d2, d3] }
  | _ => none }
def fnPlaceFillsFirstEmptyFromHomeRow : OpenClaim := { program := "qxb6001005a", sum := "a03377b362d37431b7b638868973697ebf7cb6b69d3de33944f2d22420175cc8", func := "example.com/sluicegate/sluicegate/zzlaws_root_b1.FnPlaceFillsFirstEmptyFromHome", spec := "fnPlaceFillsFirstEmptyFromHome", apart := false }
def FnPlaceFillsFirstEmptyFromHomeSaid : Prop := fnPlaceFillsFirstEmptyFromHomeRow.holds Try.pinned (OpenSpec.ofChange fnPlaceFillsFirstEmptyFromHomeSpec)

/-- ITS FALSE NEIGHBOUR: 'it returns false'. Refute it at one input. -/
def fnPlaceFillsFirstEmptyFromHomeWrong : ChangeSpec := { name := "fnPlaceFillsFirstEmptyFromHome", fn := fun _ => fun
  | [d1, d2, d3] => { results := [.lit (.bool false)], args := [d1, d2, d3] }
  | _ => none }
def FnPlaceFillsFirstEmptyFromHomeWrongFalsely : Prop := fnPlaceFillsFirstEmptyFromHomeRow.holds Try.pinned (OpenSpec.ofChange fnPlaceFillsFirstEmptyFromHomeWrong)

/-- 'zzlaws_root_b1.FnPlacedClientsAreFoundByProbing': WHATEVER THE INPUT: true; the input reads as it did. -/
def fnPlacedClientsAreFoundByProbingSpec : ChangeSpec := { name := "fnPlacedClientsAreFoundByProbing", fn := fun _ => fun
  | [d1, d2] => { results := [.lit (.bool true)], args := [d1, d2] }
  | _ => none }
def fnPlacedClientsAreFoundByProbingRow : OpenClaim := { program := "qxb6001005a", sum := "a03377b362d37431b7b638868973697ebf7cb6b69d3de33944f2d22420175cc8", func := "example.com/sluicegate/sluicegate/zzlaws_root_b1.FnPlacedClientsAreFoundByProbing", spec := "fnPlacedClientsAreFoundByProbing", apart := false }
def FnPlacedClientsAreFoundByProbingSaid : Prop := fnPlacedClientsAreFoundByProbingRow.holds Try.pinned (OpenSpec.ofChange fnPlacedClientsAreFoundByProbingSpec)

/-- ITS FALSE NEIGHBOUR: 'it returns false'. Refute it at one input. -/
def fnPlacedClientsAreFoundByProbingWrong : ChangeSpec := { name := "fnPlacedClientsAreFoundByProbing", fn := fun _ => fun
  | [d1, d2] => { results := [.lit (.bool false)], args := [d1, d2] }
  | _ => none }
def FnPlacedClientsAreFoundByProbingWrongFalsely : Prop := fnPlacedClientsAreFoundByProbingRow.holds Try.pinned (OpenSpec.ofChange fnPlacedClientsAreFoundByProbingWrong)

/-- 'zzlaws_root_b1.FnPlaceOccupancyOrderFree': WHATEVER THE INPUT: true; the input reads as it did. -/
def fnPlaceOccupancyOrderFreeSpec : ChangeSpec := { name := "fnPlaceOccupancyOrderFree", fn := fun _ => fun
  | [d1, d2, d3, d4, d5] => { results := [.lit (.bool true)], args := [d1, d2, d3, d4, d5] }
  | _ => none }
def fnPlaceOccupancyOrderFreeRow : OpenClaim := { program := "qxb6001005a", sum := "a03377b362d37431b7b638868973697ebf7cb6b69d3de33944f2d22420175cc8", func := "example.com/sluicegate/sluicegate/zzlaws_root_b1.FnPlaceOccupancyOrderFree", spec := "fnPlaceOccupancyOrderFree", apart := false }
def FnPlaceOccupancyOrderFreeSaid : Prop := fnPlaceOccupancyOrderFreeRow.holds Try.pinned (OpenSpec.ofChange fnPlaceOccupancyOrderFreeSpec)

/-- ITS FALSE NEIGHBOUR: 'it returns false'. Refute it at one input. -/
def fnPlaceOccupancyOrderFreeWrong : ChangeSpec := { name := "fnPlaceOccupancyOrderFree", fn := fun _ => fun
  | [d1, d2, d3, d4, d5] => { results := [.lit (.bool false)], args := [d1, d2, d3, d4, d5] }
  | _ => none }
def FnPlaceOccupancyOrderFreeWrongFalsely : Prop := fnPlaceOccupancyOrderFreeRow.holds Try.pinned (OpenSpec.ofChange fnPlaceOccupancyOrderFreeWrong)

end Rows
end Go.Proofs.Qxb6001005a
