/-
  No cell of these rows narrows 'for every input' (looked for: loops, veiled, ifaces, maps, wideKeys, modest, calm, conditions, laid).
  DERIVED. THE GIVEN ROWS OF THIS SEAT. 8 by the template 'for every input the law returns true; each argument reads behind the call as it read before'; 0 by the template 'total and deterministic' (their statements: Qxb6600123aTotals.lean).
  GIVEN WITH THE SEED: the statements are not yours to turn. If you find one false, say at which input.
  Laid BY PROGRAM, IN A SANDBOX (cutbox-rows.mjs): the forced cells as the released guide's own fill.sh prints them over the translation 6bb6c4356ad1a4cc… (all of the seat's roots in one cut). By AI agents, Wed Nov 11 2026. No macro, syntax, notation, axiom, sorry.
-/
import Derived.Test.Qxb6600123aChecked
import GoSem.Claim
import GoSem.ClaimJoined
import GoSem.ClaimMapViews
import Derived.JoinedTies
import Derived.KernelRfl
namespace Go.Proofs.Qxb6600123a
/- THE CELL 'sum', in the pinned program and in every row, IS THE sha256 OF THE DUMP (.gsa) THAT Qxb6600123aProg.lean LOADS. Nothing in Lean hashes anything: it is a label: what it is worth is what the hold of that sum in a sandbox is worth. -/
noncomputable def Try.pinned : Pinned := { name := "qxb6600123a", sum := "6bb6c4356ad1a4cc473224b950b40eba6862a4113f0947fe9eab5ef9df5dd387", checked := Try.checked }
namespace Rows
def none {H : Type} : Left H := { results := [], args := [] }

/-- 'zzlaws_internal_engine_b1.FnFirstOverMatchesSortedScan': WHATEVER THE INPUT: true; the input reads as it did. -/
def fnFirstOverMatchesSortedScanSpec : ChangeSpec := { name := "fnFirstOverMatchesSortedScan", fn := fun _ => fun
  | [d1, d2, d3] => { results := [.lit (.bool true)], args := [d1, d2, d3] }
  | _ => none }
def fnFirstOverMatchesSortedScanRow : OpenClaim := { program := "qxb6600123a", sum := "6bb6c4356ad1a4cc473224b950b40eba6862a4113f0947fe9eab5ef9df5dd387", func := "example.com/numaline/numaline/zzlaws_internal_engine_b1.FnFirstOverMatchesSortedScan", spec := "fnFirstOverMatchesSortedScan", apart := false }
def FnFirstOverMatchesSortedScanSaid : Prop := fnFirstOverMatchesSortedScanRow.holds Try.pinned (OpenSpec.ofChange fnFirstOverMatchesSortedScanSpec)

/-- ITS FALSE NEIGHBOUR: 'it returns false'. Refute it at one input. -/
def fnFirstOverMatchesSortedScanWrong : ChangeSpec := { name := "fnFirstOverMatchesSortedScan", fn := fun _ => fun
  | [d1, d2, d3] => { results := [.lit (.bool false)], args := [d1, d2, d3] }
  | _ => none }
def FnFirstOverMatchesSortedScanWrongFalsely : Prop := fnFirstOverMatchesSortedScanRow.holds Try.pinned (OpenSpec.ofChange fnFirstOverMatchesSortedScanWrong)

/-- 'zzlaws_internal_engine_b1.FnFirstOverPermutesKeys': WHATEVER THE INPUT: true; the input reads as it did. -/
def fnFirstOverPermutesKeysSpec : ChangeSpec := { name := "fnFirstOverPermutesKeys", fn := fun _ => fun
  | [d1, d2, d3] => { results := [.lit (.bool true)], args := [d1, d2, d3] }
  | _ => none }
def fnFirstOverPermutesKeysRow : OpenClaim := { program := "qxb6600123a", sum := "6bb6c4356ad1a4cc473224b950b40eba6862a4113f0947fe9eab5ef9df5dd387", func := "example.com/numaline/numaline/zzlaws_internal_engine_b1.FnFirstOverPermutesKeys", spec := "fnFirstOverPermutesKeys", apart := false }
def FnFirstOverPermutesKeysSaid : Prop := fnFirstOverPermutesKeysRow.holds Try.pinned (OpenSpec.ofChange fnFirstOverPermutesKeysSpec)

/-- ITS FALSE NEIGHBOUR: 'it returns false'. Refute it at one input. -/
def fnFirstOverPermutesKeysWrong : ChangeSpec := { name := "fnFirstOverPermutesKeys", fn := fun _ => fun
  | [d1, d2, d3] => { results := [.lit (.bool false)], args := [d1, d2, d3] }
  | _ => none }
def FnFirstOverPermutesKeysWrongFalsely : Prop := fnFirstOverPermutesKeysRow.holds Try.pinned (OpenSpec.ofChange fnFirstOverPermutesKeysWrong)

/-- 'zzlaws_internal_engine_b1.FnFirstOverDeeperWithMoreRoom': WHATEVER THE INPUT: true; the input reads as it did. -/
def fnFirstOverDeeperWithMoreRoomSpec : ChangeSpec := { name := "fnFirstOverDeeperWithMoreRoom", fn := fun _ => fun
  | [d1, d2, d3, d4] => { results := [.lit (.bool true)], args := [d1, d2, d3, d4] }
  | _ => none }
def fnFirstOverDeeperWithMoreRoomRow : OpenClaim := { program := "qxb6600123a", sum := "6bb6c4356ad1a4cc473224b950b40eba6862a4113f0947fe9eab5ef9df5dd387", func := "example.com/numaline/numaline/zzlaws_internal_engine_b1.FnFirstOverDeeperWithMoreRoom", spec := "fnFirstOverDeeperWithMoreRoom", apart := false }
def FnFirstOverDeeperWithMoreRoomSaid : Prop := fnFirstOverDeeperWithMoreRoomRow.holds Try.pinned (OpenSpec.ofChange fnFirstOverDeeperWithMoreRoomSpec)

/-- ITS FALSE NEIGHBOUR: 'it returns false'. Refute it at one input. -/
def fnFirstOverDeeperWithMoreRoomWrong : ChangeSpec := { name := "fnFirstOverDeeperWithMoreRoom", fn := fun _ => fun
  | [d1, d2, d3, d4] => { results := [.lit (.bool false)], args := [d1, d2, d3, d4] }
  | _ => none }
def FnFirstOverDeeperWithMoreRoomWrongFalsely : Prop := fnFirstOverDeeperWithMoreRoomRow.holds Try.pinned (OpenSpec.ofChange fnFirstOverDeeperWithMoreRoomWrong)

/-- 'zzlaws_internal_engine_b1.FnGroupNumbersDistinctNodeSets': WHATEVER THE INPUT: true; the input reads as it did. -/
def fnGroupNumbersDistinctNodeSetsSpec : ChangeSpec := { name := "fnGroupNumbersDistinctNodeSets", fn := fun _ => fun
  | [d1, d2, d3] => { results := [.lit (.bool true)], args := [d1, d2, d3] }
  | _ => none }
def fnGroupNumbersDistinctNodeSetsRow : OpenClaim := { program := "qxb6600123a", sum := "6bb6c4356ad1a4cc473224b950b40eba6862a4113f0947fe9eab5ef9df5dd387", func := "example.com/numaline/numaline/zzlaws_internal_engine_b1.FnGroupNumbersDistinctNodeSets", spec := "fnGroupNumbersDistinctNodeSets", apart := false }
def FnGroupNumbersDistinctNodeSetsSaid : Prop := fnGroupNumbersDistinctNodeSetsRow.holds Try.pinned (OpenSpec.ofChange fnGroupNumbersDistinctNodeSetsSpec)

/-- ITS FALSE NEIGHBOUR: 'it returns false'. Refute it at one input. -/
def fnGroupNumbersDistinctNodeSetsWrong : ChangeSpec := { name := "fnGroupNumbersDistinctNodeSets", fn := fun _ => fun
  | [d1, d2, d3] => { results := [.lit (.bool false)], args := [d1, d2, d3] }
  | _ => none }
def FnGroupNumbersDistinctNodeSetsWrongFalsely : Prop := fnGroupNumbersDistinctNodeSetsRow.holds Try.pinned (OpenSpec.ofChange fnGroupNumbersDistinctNodeSetsWrong)

/-- 'zzlaws_internal_engine_b1.FnGroupFreeChangesOnlyFreeCounts': WHATEVER THE INPUT: true; the input reads as it did. -/
def fnGroupFreeChangesOnlyFreeCountsSpec : ChangeSpec := { name := "fnGroupFreeChangesOnlyFreeCounts", fn := fun _ => fun
  | [d1, d2, d3] => { results := [.lit (.bool true)], args := [d1, d2, d3] }
  | _ => none }
def fnGroupFreeChangesOnlyFreeCountsRow : OpenClaim := { program := "qxb6600123a", sum := "6bb6c4356ad1a4cc473224b950b40eba6862a4113f0947fe9eab5ef9df5dd387", func := "example.com/numaline/numaline/zzlaws_internal_engine_b1.FnGroupFreeChangesOnlyFreeCounts", spec := "fnGroupFreeChangesOnlyFreeCounts", apart := false }
def FnGroupFreeChangesOnlyFreeCountsSaid : Prop := fnGroupFreeChangesOnlyFreeCountsRow.holds Try.pinned (OpenSpec.ofChange fnGroupFreeChangesOnlyFreeCountsSpec)

/-- ITS FALSE NEIGHBOUR: 'it returns false'. Refute it at one input. -/
def fnGroupFreeChangesOnlyFreeCountsWrong : ChangeSpec := { name := "fnGroupFreeChangesOnlyFreeCounts", fn := fun _ => fun
  | [d1, d2, d3] => { results := [.lit (.bool false)], args := [d1, d2, d3] }
  | _ => none }
def FnGroupFreeChangesOnlyFreeCountsWrongFalsely : Prop := fnGroupFreeChangesOnlyFreeCountsRow.holds Try.pinned (OpenSpec.ofChange fnGroupFreeChangesOnlyFreeCountsWrong)

/-- 'zzlaws_internal_engine_b1.FnFailuresAddKeepsUncoveredAndNew': WHATEVER THE INPUT: true; the input reads as it did. -/
def fnFailuresAddKeepsUncoveredAndNewSpec : ChangeSpec := { name := "fnFailuresAddKeepsUncoveredAndNew", fn := fun _ => fun
  | [d1, d2, d3, d4, d5, d6, d7, d8, d9] => { results := [.lit (.bool true)], args := [d1, d2, d3, d4, d5, d6, d7, d8, d9] }
  | _ => none }
def fnFailuresAddKeepsUncoveredAndNewRow : OpenClaim := { program := "qxb6600123a", sum := "6bb6c4356ad1a4cc473224b950b40eba6862a4113f0947fe9eab5ef9df5dd387", func := "example.com/numaline/numaline/zzlaws_internal_engine_b1.FnFailuresAddKeepsUncoveredAndNew", spec := "fnFailuresAddKeepsUncoveredAndNew", apart := false }
def FnFailuresAddKeepsUncoveredAndNewSaid : Prop := fnFailuresAddKeepsUncoveredAndNewRow.holds Try.pinned (OpenSpec.ofChange fnFailuresAddKeepsUncoveredAndNewSpec)

/-- ITS FALSE NEIGHBOUR: 'it returns false'. Refute it at one input. -/
def fnFailuresAddKeepsUncoveredAndNewWrong : ChangeSpec := { name := "fnFailuresAddKeepsUncoveredAndNew", fn := fun _ => fun
  | [d1, d2, d3, d4, d5, d6, d7, d8, d9] => { results := [.lit (.bool false)], args := [d1, d2, d3, d4, d5, d6, d7, d8, d9] }
  | _ => none }
def FnFailuresAddKeepsUncoveredAndNewWrongFalsely : Prop := fnFailuresAddKeepsUncoveredAndNewRow.holds Try.pinned (OpenSpec.ofChange fnFailuresAddKeepsUncoveredAndNewWrong)

/-- 'zzlaws_internal_engine_b1.FnFailuresUnprunedKeepsLastMost': WHATEVER THE INPUT: true; the input reads as it did. -/
def fnFailuresUnprunedKeepsLastMostSpec : ChangeSpec := { name := "fnFailuresUnprunedKeepsLastMost", fn := fun _ => fun
  | [d1, d2, d3, d4, d5] => { results := [.lit (.bool true)], args := [d1, d2, d3, d4, d5] }
  | _ => none }
def fnFailuresUnprunedKeepsLastMostRow : OpenClaim := { program := "qxb6600123a", sum := "6bb6c4356ad1a4cc473224b950b40eba6862a4113f0947fe9eab5ef9df5dd387", func := "example.com/numaline/numaline/zzlaws_internal_engine_b1.FnFailuresUnprunedKeepsLastMost", spec := "fnFailuresUnprunedKeepsLastMost", apart := false }
def FnFailuresUnprunedKeepsLastMostSaid : Prop := fnFailuresUnprunedKeepsLastMostRow.holds Try.pinned (OpenSpec.ofChange fnFailuresUnprunedKeepsLastMostSpec)

/-- ITS FALSE NEIGHBOUR: 'it returns false'. Refute it at one input. -/
def fnFailuresUnprunedKeepsLastMostWrong : ChangeSpec := { name := "fnFailuresUnprunedKeepsLastMost", fn := fun _ => fun
  | [d1, d2, d3, d4, d5] => { results := [.lit (.bool false)], args := [d1, d2, d3, d4, d5] }
  | _ => none }
def FnFailuresUnprunedKeepsLastMostWrongFalsely : Prop := fnFailuresUnprunedKeepsLastMostRow.holds Try.pinned (OpenSpec.ofChange fnFailuresUnprunedKeepsLastMostWrong)

/-- 'zzlaws_internal_engine_b1.FnFailuresPrunedNoNewerCoversOlder': WHATEVER THE INPUT: true; the input reads as it did. -/
def fnFailuresPrunedNoNewerCoversOlderSpec : ChangeSpec := { name := "fnFailuresPrunedNoNewerCoversOlder", fn := fun _ => fun
  | [d1, d2, d3, d4, d5, d6] => { results := [.lit (.bool true)], args := [d1, d2, d3, d4, d5, d6] }
  | _ => none }
def fnFailuresPrunedNoNewerCoversOlderRow : OpenClaim := { program := "qxb6600123a", sum := "6bb6c4356ad1a4cc473224b950b40eba6862a4113f0947fe9eab5ef9df5dd387", func := "example.com/numaline/numaline/zzlaws_internal_engine_b1.FnFailuresPrunedNoNewerCoversOlder", spec := "fnFailuresPrunedNoNewerCoversOlder", apart := false }
def FnFailuresPrunedNoNewerCoversOlderSaid : Prop := fnFailuresPrunedNoNewerCoversOlderRow.holds Try.pinned (OpenSpec.ofChange fnFailuresPrunedNoNewerCoversOlderSpec)

/-- ITS FALSE NEIGHBOUR: 'it returns false'. Refute it at one input. -/
def fnFailuresPrunedNoNewerCoversOlderWrong : ChangeSpec := { name := "fnFailuresPrunedNoNewerCoversOlder", fn := fun _ => fun
  | [d1, d2, d3, d4, d5, d6] => { results := [.lit (.bool false)], args := [d1, d2, d3, d4, d5, d6] }
  | _ => none }
def FnFailuresPrunedNoNewerCoversOlderWrongFalsely : Prop := fnFailuresPrunedNoNewerCoversOlderRow.holds Try.pinned (OpenSpec.ofChange fnFailuresPrunedNoNewerCoversOlderWrong)

end Rows
end Go.Proofs.Qxb6600123a
