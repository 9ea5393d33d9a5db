/-
  No cell of these rows narrows 'for every input' (looked for: loops, veiled, ifaces, maps, wideKeys, modest, calm, conditions, laid).
  DERIVED. THE GIVEN ROWS OF THIS SEAT. 3 by the template 'for every input the law returns true; each argument reads behind the call as it read before'; 0 by the template 'total and deterministic' (their statements: Qxb6613493aTotals.lean).
  GIVEN WITH THE SEED: the statements are not yours to turn. If you find one false, say at which input.
  Laid BY PROGRAM, IN A SANDBOX (cutbox-rows.mjs): the forced cells as the released guide's own fill.sh prints them over the translation adb4be5e3230074a… (all of the seat's roots in one cut). By AI agents, Wed Nov 11 2026. No macro, syntax, notation, axiom, sorry.
-/
import Derived.Test.Qxb6613493aChecked
import GoSem.Claim
import GoSem.ClaimJoined
import GoSem.ClaimMapViews
import Derived.JoinedTies
import Derived.KernelRfl
namespace Go.Proofs.Qxb6613493a
/- THE CELL 'sum', in the pinned program and in every row, IS THE sha256 OF THE DUMP (.gsa) THAT Qxb6613493aProg.lean LOADS. Nothing in Lean hashes anything: it is a label: what it is worth is what the hold of that sum in a sandbox is worth. -/
noncomputable def Try.pinned : Pinned := { name := "qxb6613493a", sum := "adb4be5e3230074a6a9b85058a7e1e111808a3741f7b238764727b5b3ac7a86c", checked := Try.checked }
namespace Rows
def none {H : Type} : Left H := { results := [], args := [] }

/-- 'zzlaws_internal_meta_b1.FnTopicSettingTakesUnionAtAnyCut': WHATEVER THE INPUT: true; the input reads as it did. -/
def fnTopicSettingTakesUnionAtAnyCutSpec : ChangeSpec := { name := "fnTopicSettingTakesUnionAtAnyCut", fn := fun _ => fun
  | [d1, d2, d3, d4, d5] => { results := [.lit (.bool true)], args := [d1, d2, d3, d4, d5] }
  | _ => none }
def fnTopicSettingTakesUnionAtAnyCutRow : OpenClaim := { program := "qxb6613493a", sum := "adb4be5e3230074a6a9b85058a7e1e111808a3741f7b238764727b5b3ac7a86c", func := "example.com/syncrail/syncrail/zzlaws_internal_meta_b1.FnTopicSettingTakesUnionAtAnyCut", spec := "fnTopicSettingTakesUnionAtAnyCut", apart := false }
def FnTopicSettingTakesUnionAtAnyCutSaid : Prop := fnTopicSettingTakesUnionAtAnyCutRow.holds Try.pinned (OpenSpec.ofChange fnTopicSettingTakesUnionAtAnyCutSpec)

/-- ITS FALSE NEIGHBOUR: 'it returns false'. Refute it at one input. -/
def fnTopicSettingTakesUnionAtAnyCutWrong : ChangeSpec := { name := "fnTopicSettingTakesUnionAtAnyCut", fn := fun _ => fun
  | [d1, d2, d3, d4, d5] => { results := [.lit (.bool false)], args := [d1, d2, d3, d4, d5] }
  | _ => none }
def FnTopicSettingTakesUnionAtAnyCutWrongFalsely : Prop := fnTopicSettingTakesUnionAtAnyCutRow.holds Try.pinned (OpenSpec.ofChange fnTopicSettingTakesUnionAtAnyCutWrong)

/-- 'zzlaws_internal_meta_b1.FnTopicSettingTakesItsEndsNothingBeyondAndShifts': WHATEVER THE INPUT: true; the input reads as it did. -/
def fnTopicSettingTakesItsEndsNothingBeyondAndShiftsSpec : ChangeSpec := { name := "fnTopicSettingTakesItsEndsNothingBeyondAndShifts", fn := fun _ => fun
  | [d1, d2, d3, d4, d5] => { results := [.lit (.bool true)], args := [d1, d2, d3, d4, d5] }
  | _ => none }
def fnTopicSettingTakesItsEndsNothingBeyondAndShiftsRow : OpenClaim := { program := "qxb6613493a", sum := "adb4be5e3230074a6a9b85058a7e1e111808a3741f7b238764727b5b3ac7a86c", func := "example.com/syncrail/syncrail/zzlaws_internal_meta_b1.FnTopicSettingTakesItsEndsNothingBeyondAndShifts", spec := "fnTopicSettingTakesItsEndsNothingBeyondAndShifts", apart := false }
def FnTopicSettingTakesItsEndsNothingBeyondAndShiftsSaid : Prop := fnTopicSettingTakesItsEndsNothingBeyondAndShiftsRow.holds Try.pinned (OpenSpec.ofChange fnTopicSettingTakesItsEndsNothingBeyondAndShiftsSpec)

/-- ITS FALSE NEIGHBOUR: 'it returns false'. Refute it at one input. -/
def fnTopicSettingTakesItsEndsNothingBeyondAndShiftsWrong : ChangeSpec := { name := "fnTopicSettingTakesItsEndsNothingBeyondAndShifts", fn := fun _ => fun
  | [d1, d2, d3, d4, d5] => { results := [.lit (.bool false)], args := [d1, d2, d3, d4, d5] }
  | _ => none }
def FnTopicSettingTakesItsEndsNothingBeyondAndShiftsWrongFalsely : Prop := fnTopicSettingTakesItsEndsNothingBeyondAndShiftsRow.holds Try.pinned (OpenSpec.ofChange fnTopicSettingTakesItsEndsNothingBeyondAndShiftsWrong)

/-- 'zzlaws_internal_meta_b1.FnPartitionPreferredLeaderIsFirstReplicaWhateverFollows': WHATEVER THE INPUT: true; the input reads as it did. -/
def fnPartitionPreferredLeaderIsFirstReplicaWhateverFollowsSpec : ChangeSpec := { name := "fnPartitionPreferredLeaderIsFirstReplicaWhateverFollows", fn := fun _ => fun
  | [d1, d2, d3, d4, d5, d6] => { results := [.lit (.bool true)], args := [d1, d2, d3, d4, d5, d6] }
  | _ => none }
def fnPartitionPreferredLeaderIsFirstReplicaWhateverFollowsRow : OpenClaim := { program := "qxb6613493a", sum := "adb4be5e3230074a6a9b85058a7e1e111808a3741f7b238764727b5b3ac7a86c", func := "example.com/syncrail/syncrail/zzlaws_internal_meta_b1.FnPartitionPreferredLeaderIsFirstReplicaWhateverFollows", spec := "fnPartitionPreferredLeaderIsFirstReplicaWhateverFollows", apart := false }
def FnPartitionPreferredLeaderIsFirstReplicaWhateverFollowsSaid : Prop := fnPartitionPreferredLeaderIsFirstReplicaWhateverFollowsRow.holds Try.pinned (OpenSpec.ofChange fnPartitionPreferredLeaderIsFirstReplicaWhateverFollowsSpec)

/-- ITS FALSE NEIGHBOUR: 'it returns false'. Refute it at one input. -/
def fnPartitionPreferredLeaderIsFirstReplicaWhateverFollowsWrong : ChangeSpec := { name := "fnPartitionPreferredLeaderIsFirstReplicaWhateverFollows", fn := fun _ => fun
  | [d1, d2, d3, d4, d5, d6] => { results := [.lit (.bool false)], args := [d1, d2, d3, d4, d5, d6] }
  | _ => none }
def FnPartitionPreferredLeaderIsFirstReplicaWhateverFollowsWrongFalsely : Prop := fnPartitionPreferredLeaderIsFirstReplicaWhateverFollowsRow.holds Try.pinned (OpenSpec.ofChange fnPartitionPreferredLeaderIsFirstReplicaWhateverFollowsWrong)

end Rows
end Go.Proofs.Qxb6613493a
