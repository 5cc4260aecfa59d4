/-
  No cell of these rows narrows 'for every input' (looked for: loops, veiled, ifaces, maps, wideKeys, modest, calm, conditions, laid).
  DERIVED. THE GIVEN ROWS OF THIS SEAT. 6 by the template 'for every input the law returns true; each argument reads behind the call as it read before'; 0 by the template 'total and deterministic' (their statements: Qxb6609224aTotals.lean).
  GIVEN WITH THE SEED: the statements are not yours to turn. If you find one false, say at which input.
  Laid BY PROGRAM, IN A SANDBOX (cutbox-rows.mjs): the forced cells as the released guide's own fill.sh prints them over the translation 92aac927e8bb4625… (all of the seat's roots in one cut). By AI agents, Wed Nov 11 2026. No macro, syntax, notation, axiom, sorry.
-/
import Derived.Test.Qxb6609224aChecked
import GoSem.Claim
import GoSem.ClaimJoined
import GoSem.ClaimMapViews
import Derived.JoinedTies
import Derived.KernelRfl
namespace Go.Proofs.Qxb6609224a
/- THE CELL 'sum', in the pinned program and in every row, IS THE sha256 OF THE DUMP (.gsa) THAT Qxb6609224aProg.lean LOADS. Nothing in Lean hashes anything: it is a label: what it is worth is what the hold of that sum in a sandbox is worth. -/
noncomputable def Try.pinned : Pinned := { name := "qxb6609224a", sum := "92aac927e8bb4625ac8d076321ac95cc88278832769ddd69b3813d8520b05987", checked := Try.checked }
namespace Rows
def none {H : Type} : Left H := { results := [], args := [] }

/-- 'zzlaws_internal_route_b1.FnReleaseEveryRequestTrimsRecordToCapacity': WHATEVER THE INPUT: true; the input reads as it did. -/
def fnReleaseEveryRequestTrimsRecordToCapacitySpec : ChangeSpec := { name := "fnReleaseEveryRequestTrimsRecordToCapacity", fn := fun _ => fun
  | [d1, d2, d3, d4, d5] => { results := [.lit (.bool true)], args := [d1, d2, d3, d4, d5] }
  | _ => none }
def fnReleaseEveryRequestTrimsRecordToCapacityRow : OpenClaim := { program := "qxb6609224a", sum := "92aac927e8bb4625ac8d076321ac95cc88278832769ddd69b3813d8520b05987", func := "example.com/headroom/headroom/zzlaws_internal_route_b1.FnReleaseEveryRequestTrimsRecordToCapacity", spec := "fnReleaseEveryRequestTrimsRecordToCapacity", unfollowed := true, recurses := true, apart := false }
def FnReleaseEveryRequestTrimsRecordToCapacitySaid : Prop := fnReleaseEveryRequestTrimsRecordToCapacityRow.holds Try.pinned (OpenSpec.ofChange fnReleaseEveryRequestTrimsRecordToCapacitySpec)

/-- ITS FALSE NEIGHBOUR: 'it returns false'. Refute it at one input. -/
def fnReleaseEveryRequestTrimsRecordToCapacityWrong : ChangeSpec := { name := "fnReleaseEveryRequestTrimsRecordToCapacity", fn := fun _ => fun
  | [d1, d2, d3, d4, d5] => { results := [.lit (.bool false)], args := [d1, d2, d3, d4, d5] }
  | _ => none }
def FnReleaseEveryRequestTrimsRecordToCapacityWrongFalsely : Prop := fnReleaseEveryRequestTrimsRecordToCapacityRow.holds Try.pinned (OpenSpec.ofChange fnReleaseEveryRequestTrimsRecordToCapacityWrong)

/-- 'zzlaws_internal_route_b1.FnReleaseOneRequestMatchesModel': WHATEVER THE INPUT: true; the input reads as it did. -/
def fnReleaseOneRequestMatchesModelSpec : ChangeSpec := { name := "fnReleaseOneRequestMatchesModel", fn := fun _ => fun
  | [d1, d2, d3, d4, d5, d6] => { results := [.lit (.bool true)], args := [d1, d2, d3, d4, d5, d6] }
  | _ => none }
def fnReleaseOneRequestMatchesModelRow : OpenClaim := { program := "qxb6609224a", sum := "92aac927e8bb4625ac8d076321ac95cc88278832769ddd69b3813d8520b05987", func := "example.com/headroom/headroom/zzlaws_internal_route_b1.FnReleaseOneRequestMatchesModel", spec := "fnReleaseOneRequestMatchesModel", unfollowed := true, recurses := true, apart := false }
def FnReleaseOneRequestMatchesModelSaid : Prop := fnReleaseOneRequestMatchesModelRow.holds Try.pinned (OpenSpec.ofChange fnReleaseOneRequestMatchesModelSpec)

/-- ITS FALSE NEIGHBOUR: 'it returns false'. Refute it at one input. -/
def fnReleaseOneRequestMatchesModelWrong : ChangeSpec := { name := "fnReleaseOneRequestMatchesModel", fn := fun _ => fun
  | [d1, d2, d3, d4, d5, d6] => { results := [.lit (.bool false)], args := [d1, d2, d3, d4, d5, d6] }
  | _ => none }
def FnReleaseOneRequestMatchesModelWrongFalsely : Prop := fnReleaseOneRequestMatchesModelRow.holds Try.pinned (OpenSpec.ofChange fnReleaseOneRequestMatchesModelWrong)

/-- 'zzlaws_internal_route_b1.FnHoldsOnlyWhereTPOTIsNotRead': WHATEVER THE INPUT: true; the input reads as it did. -/
def fnHoldsOnlyWhereTPOTIsNotReadSpec : ChangeSpec := { name := "fnHoldsOnlyWhereTPOTIsNotRead", fn := fun _ => fun
  | [d1, d2, d3, d4] => { results := [.lit (.bool true)], args := [d1, d2, d3, d4] }
  | _ => none }
def fnHoldsOnlyWhereTPOTIsNotReadRow : OpenClaim := { program := "qxb6609224a", sum := "92aac927e8bb4625ac8d076321ac95cc88278832769ddd69b3813d8520b05987", func := "example.com/headroom/headroom/zzlaws_internal_route_b1.FnHoldsOnlyWhereTPOTIsNotRead", spec := "fnHoldsOnlyWhereTPOTIsNotRead", apart := false }
def FnHoldsOnlyWhereTPOTIsNotReadSaid : Prop := fnHoldsOnlyWhereTPOTIsNotReadRow.holds Try.pinned (OpenSpec.ofChange fnHoldsOnlyWhereTPOTIsNotReadSpec)

/-- ITS FALSE NEIGHBOUR: 'it returns false'. Refute it at one input. -/
def fnHoldsOnlyWhereTPOTIsNotReadWrong : ChangeSpec := { name := "fnHoldsOnlyWhereTPOTIsNotRead", fn := fun _ => fun
  | [d1, d2, d3, d4] => { results := [.lit (.bool false)], args := [d1, d2, d3, d4] }
  | _ => none }
def FnHoldsOnlyWhereTPOTIsNotReadWrongFalsely : Prop := fnHoldsOnlyWhereTPOTIsNotReadRow.holds Try.pinned (OpenSpec.ofChange fnHoldsOnlyWhereTPOTIsNotReadWrong)

/-- 'zzlaws_internal_route_b1.FnHoldsExactlyWhereMaxScoreSparesTTFT': WHATEVER THE INPUT: true; the input reads as it did. -/
def fnHoldsExactlyWhereMaxScoreSparesTTFTSpec : ChangeSpec := { name := "fnHoldsExactlyWhereMaxScoreSparesTTFT", fn := fun _ => fun
  | [d1, d2, d3, d4, d5] => { results := [.lit (.bool true)], args := [d1, d2, d3, d4, d5] }
  | _ => none }
def fnHoldsExactlyWhereMaxScoreSparesTTFTRow : OpenClaim := { program := "qxb6609224a", sum := "92aac927e8bb4625ac8d076321ac95cc88278832769ddd69b3813d8520b05987", func := "example.com/headroom/headroom/zzlaws_internal_route_b1.FnHoldsExactlyWhereMaxScoreSparesTTFT", spec := "fnHoldsExactlyWhereMaxScoreSparesTTFT", apart := false }
def FnHoldsExactlyWhereMaxScoreSparesTTFTSaid : Prop := fnHoldsExactlyWhereMaxScoreSparesTTFTRow.holds Try.pinned (OpenSpec.ofChange fnHoldsExactlyWhereMaxScoreSparesTTFTSpec)

/-- ITS FALSE NEIGHBOUR: 'it returns false'. Refute it at one input. -/
def fnHoldsExactlyWhereMaxScoreSparesTTFTWrong : ChangeSpec := { name := "fnHoldsExactlyWhereMaxScoreSparesTTFT", fn := fun _ => fun
  | [d1, d2, d3, d4, d5] => { results := [.lit (.bool false)], args := [d1, d2, d3, d4, d5] }
  | _ => none }
def FnHoldsExactlyWhereMaxScoreSparesTTFTWrongFalsely : Prop := fnHoldsExactlyWhereMaxScoreSparesTTFTRow.holds Try.pinned (OpenSpec.ofChange fnHoldsExactlyWhereMaxScoreSparesTTFTWrong)

/-- 'zzlaws_internal_route_b1.FnCostAtLeastLargestPartAtMostFiveTimes': WHATEVER THE INPUT: true; the input reads as it did. -/
def fnCostAtLeastLargestPartAtMostFiveTimesSpec : ChangeSpec := { name := "fnCostAtLeastLargestPartAtMostFiveTimes", fn := fun _ => fun
  | [d1, d2, d3, d4] => { results := [.lit (.bool true)], args := [d1, d2, d3, d4] }
  | _ => none }
def fnCostAtLeastLargestPartAtMostFiveTimesRow : OpenClaim := { program := "qxb6609224a", sum := "92aac927e8bb4625ac8d076321ac95cc88278832769ddd69b3813d8520b05987", func := "example.com/headroom/headroom/zzlaws_internal_route_b1.FnCostAtLeastLargestPartAtMostFiveTimes", spec := "fnCostAtLeastLargestPartAtMostFiveTimes", apart := false }
def FnCostAtLeastLargestPartAtMostFiveTimesSaid : Prop := fnCostAtLeastLargestPartAtMostFiveTimesRow.holds Try.pinned (OpenSpec.ofChange fnCostAtLeastLargestPartAtMostFiveTimesSpec)

/-- ITS FALSE NEIGHBOUR: 'it returns false'. Refute it at one input. -/
def fnCostAtLeastLargestPartAtMostFiveTimesWrong : ChangeSpec := { name := "fnCostAtLeastLargestPartAtMostFiveTimes", fn := fun _ => fun
  | [d1, d2, d3, d4] => { results := [.lit (.bool false)], args := [d1, d2, d3, d4] }
  | _ => none }
def FnCostAtLeastLargestPartAtMostFiveTimesWrongFalsely : Prop := fnCostAtLeastLargestPartAtMostFiveTimesRow.holds Try.pinned (OpenSpec.ofChange fnCostAtLeastLargestPartAtMostFiveTimesWrong)

/-- 'zzlaws_internal_route_b1.FnPushPlacesEveryHoldWhereItLies': WHATEVER THE INPUT: true; the input reads as it did. -/
def fnPushPlacesEveryHoldWhereItLiesSpec : ChangeSpec := { name := "fnPushPlacesEveryHoldWhereItLies", fn := fun _ => fun
  | [d1, d2, d3] => { results := [.lit (.bool true)], args := [d1, d2, d3] }
  | _ => none }
def fnPushPlacesEveryHoldWhereItLiesRow : OpenClaim := { program := "qxb6609224a", sum := "92aac927e8bb4625ac8d076321ac95cc88278832769ddd69b3813d8520b05987", func := "example.com/headroom/headroom/zzlaws_internal_route_b1.FnPushPlacesEveryHoldWhereItLies", spec := "fnPushPlacesEveryHoldWhereItLies", apart := false }
def FnPushPlacesEveryHoldWhereItLiesSaid : Prop := fnPushPlacesEveryHoldWhereItLiesRow.holds Try.pinned (OpenSpec.ofChange fnPushPlacesEveryHoldWhereItLiesSpec)

/-- ITS FALSE NEIGHBOUR: 'it returns false'. Refute it at one input. -/
def fnPushPlacesEveryHoldWhereItLiesWrong : ChangeSpec := { name := "fnPushPlacesEveryHoldWhereItLies", fn := fun _ => fun
  | [d1, d2, d3] => { results := [.lit (.bool false)], args := [d1, d2, d3] }
  | _ => none }
def FnPushPlacesEveryHoldWhereItLiesWrongFalsely : Prop := fnPushPlacesEveryHoldWhereItLiesRow.holds Try.pinned (OpenSpec.ofChange fnPushPlacesEveryHoldWhereItLiesWrong)

end Rows
end Go.Proofs.Qxb6609224a
