/-
  No cell of these rows narrows 'for every input' (looked for: loops, veiled, ifaces, maps, wideKeys, modest, calm, conditions, laid).
  DERIVED. THE GIVEN ROWS OF THIS SEAT. 1 by the template 'for every input the law returns true; each argument reads behind the call as it read before'; 0 by the template 'total and deterministic' (their statements: Qxb6614034aTotals.lean).
  GIVEN WITH THE SEED: the statements are not yours to turn. If you find one false, say at which input.
  Laid BY PROGRAM, IN A SANDBOX (cutbox-rows.mjs): the forced cells as the released guide's own fill.sh prints them over the translation dc26131d3a107408… (all of the seat's roots in one cut). By AI agents, Wed Nov 11 2026. No macro, syntax, notation, axiom, sorry.
-/
import Derived.Test.Qxb6614034aChecked
import GoSem.Claim
import GoSem.ClaimJoined
import GoSem.ClaimMapViews
import Derived.JoinedTies
import Derived.KernelRfl
namespace Go.Proofs.Qxb6614034a
/- THE CELL 'sum', in the pinned program and in every row, IS THE sha256 OF THE DUMP (.gsa) THAT Qxb6614034aProg.lean LOADS. Nothing in Lean hashes anything: it is a label: what it is worth is what the hold of that sum in a sandbox is worth. -/
noncomputable def Try.pinned : Pinned := { name := "qxb6614034a", sum := "dc26131d3a1074082c63d9b161d9a8923eb4de448c5483d1482d00711d800a16", checked := Try.checked }
namespace Rows
def none {H : Type} : Left H := { results := [], args := [] }

/-- 'zzlaws_internal_game_agentsandhumans_b1.FnFairIffNoDealKeptByClearRound': WHATEVER THE INPUT: true; the input reads as it did. -/
def fnFairIffNoDealKeptByClearRoundSpec : ChangeSpec := { name := "fnFairIffNoDealKeptByClearRound", fn := fun _ => fun
  | [d] => { results := [.lit (.bool true)], args := [d] }
  | _ => none }
def fnFairIffNoDealKeptByClearRoundRow : OpenClaim := { program := "qxb6614034a", sum := "dc26131d3a1074082c63d9b161d9a8923eb4de448c5483d1482d00711d800a16", func := "example.com/quorum/quorum/zzlaws_internal_game_agentsandhumans_b1.FnFairIffNoDealKeptByClearRound", spec := "fnFairIffNoDealKeptByClearRound", plainKeys := false, apart := false }
def FnFairIffNoDealKeptByClearRoundSaid : Prop := fnFairIffNoDealKeptByClearRoundRow.holds Try.pinned (OpenSpec.ofChange fnFairIffNoDealKeptByClearRoundSpec)

/-- ITS FALSE NEIGHBOUR: 'it returns false'. Refute it at one input. -/
def fnFairIffNoDealKeptByClearRoundWrong : ChangeSpec := { name := "fnFairIffNoDealKeptByClearRound", fn := fun _ => fun
  | [d] => { results := [.lit (.bool false)], args := [d] }
  | _ => none }
def FnFairIffNoDealKeptByClearRoundWrongFalsely : Prop := fnFairIffNoDealKeptByClearRoundRow.holds Try.pinned (OpenSpec.ofChange fnFairIffNoDealKeptByClearRoundWrong)

end Rows
end Go.Proofs.Qxb6614034a
