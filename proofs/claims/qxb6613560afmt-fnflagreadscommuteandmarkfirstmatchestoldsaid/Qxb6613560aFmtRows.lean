/-
  No cell of these rows narrows 'for every input' (looked for: loops, veiled, ifaces, maps, wideKeys, modest, calm, conditions, laid).
  DERIVED. THE GIVEN ROWS OF THIS SEAT. 2 by the template 'for every input the law returns true; each argument reads behind the call as it read before'; 0 by the template 'total and deterministic' (their statements: Qxb6613560aFmtTotals.lean).
  GIVEN WITH THE SEED: the statements are not yours to turn. If you find one false, say at which input.
  Laid BY PROGRAM, IN A SANDBOX (cutbox-rows.mjs): the forced cells as the released guide's own fill.sh prints them over the translation 7507db3bbc2b5f42… (all of the seat's roots in one cut). By AI agents, Wed Nov 11 2026. No macro, syntax, notation, axiom, sorry.
-/
import Derived.Test.Qxb6613560aFmtChecked
import GoSem.Claim
import GoSem.ClaimJoined
import GoSem.ClaimMapViews
import Derived.JoinedTies
import Derived.KernelRfl
namespace Go.Proofs.Qxb6613560aFmt
/- THE CELL 'sum', in the pinned program and in every row, IS THE sha256 OF THE DUMP (.gsa) THAT Qxb6613560aFmtProg.lean LOADS. Nothing in Lean hashes anything: it is a label: what it is worth is what the hold of that sum in a sandbox is worth. -/
noncomputable def Tryf.pinned : Pinned := { name := "qxb6613560afmt", sum := "7507db3bbc2b5f4245cc98396078f2081218f65f3a65f091a8e593cbb6e8fa0b", checked := Tryf.checked }
namespace Rows
def none {H : Type} : Left H := { results := [], args := [] }

/-- 'zzlaws_root_b1.FnFlagReadTwiceAgreesWithFirstMatchingKey': WHATEVER THE INPUT: true; the input reads as it did. -/
def fnFlagReadTwiceAgreesWithFirstMatchingKeySpec : ChangeSpec := { name := "fnFlagReadTwiceAgreesWithFirstMatchingKey", fn := fun _ => fun
  | [d1, d2, d3] => { results := [.lit (.bool true)], args := [d1, d2, d3] }
  | _ => none }
def fnFlagReadTwiceAgreesWithFirstMatchingKeyRow : OpenClaim := { program := "qxb6613560afmt", sum := "7507db3bbc2b5f4245cc98396078f2081218f65f3a65f091a8e593cbb6e8fa0b", func := "example.com/keelpool/keelpool/zzlaws_root_b1.FnFlagReadTwiceAgreesWithFirstMatchingKey", spec := "fnFlagReadTwiceAgreesWithFirstMatchingKey", stops := ["fmt.errorf, its operands' methods called", "fmt.Sprintf"], inPlace := ["fmt.errorf"], unfollowed := true, recurses := true, apart := false }
/-- NO THEOREM (fmt's text is open here; it may be false): for the released tool's asking of the row's closed facts alone. THE STATEMENT IS 'FnFlagReadTwiceAgreesWithFirstMatchingKeyToldSaid' (Qxb6613560aFmtCards.lean). -/
def FnFlagReadTwiceAgreesWithFirstMatchingKeyFormAsk : Prop := fnFlagReadTwiceAgreesWithFirstMatchingKeyRow.holds Tryf.pinned (OpenSpec.ofChange fnFlagReadTwiceAgreesWithFirstMatchingKeySpec)

/-- ITS FALSE NEIGHBOUR: 'it returns false'. Refute it at one input. -/
def fnFlagReadTwiceAgreesWithFirstMatchingKeyWrong : ChangeSpec := { name := "fnFlagReadTwiceAgreesWithFirstMatchingKey", fn := fun _ => fun
  | [d1, d2, d3] => { results := [.lit (.bool false)], args := [d1, d2, d3] }
  | _ => none }
def FnFlagReadTwiceAgreesWithFirstMatchingKeyWrongFormAsk : Prop := fnFlagReadTwiceAgreesWithFirstMatchingKeyRow.holds Tryf.pinned (OpenSpec.ofChange fnFlagReadTwiceAgreesWithFirstMatchingKeyWrong)

/-- 'zzlaws_root_b1.FnFlagReadsCommuteAndMarkFirstMatches': WHATEVER THE INPUT: true; the input reads as it did. -/
def fnFlagReadsCommuteAndMarkFirstMatchesSpec : ChangeSpec := { name := "fnFlagReadsCommuteAndMarkFirstMatches", fn := fun _ => fun
  | [d1, d2, d3, d4] => { results := [.lit (.bool true)], args := [d1, d2, d3, d4] }
  | _ => none }
def fnFlagReadsCommuteAndMarkFirstMatchesRow : OpenClaim := { program := "qxb6613560afmt", sum := "7507db3bbc2b5f4245cc98396078f2081218f65f3a65f091a8e593cbb6e8fa0b", func := "example.com/keelpool/keelpool/zzlaws_root_b1.FnFlagReadsCommuteAndMarkFirstMatches", spec := "fnFlagReadsCommuteAndMarkFirstMatches", stops := ["fmt.errorf, its operands' methods called", "fmt.Sprintf"], inPlace := ["fmt.errorf"], unfollowed := true, recurses := true, apart := false }
/-- NO THEOREM (fmt's text is open here; it may be false): for the released tool's asking of the row's closed facts alone. THE STATEMENT IS 'FnFlagReadsCommuteAndMarkFirstMatchesToldSaid' (Qxb6613560aFmtCards.lean). -/
def FnFlagReadsCommuteAndMarkFirstMatchesFormAsk : Prop := fnFlagReadsCommuteAndMarkFirstMatchesRow.holds Tryf.pinned (OpenSpec.ofChange fnFlagReadsCommuteAndMarkFirstMatchesSpec)

/-- ITS FALSE NEIGHBOUR: 'it returns false'. Refute it at one input. -/
def fnFlagReadsCommuteAndMarkFirstMatchesWrong : ChangeSpec := { name := "fnFlagReadsCommuteAndMarkFirstMatches", fn := fun _ => fun
  | [d1, d2, d3, d4] => { results := [.lit (.bool false)], args := [d1, d2, d3, d4] }
  | _ => none }
def FnFlagReadsCommuteAndMarkFirstMatchesWrongFormAsk : Prop := fnFlagReadsCommuteAndMarkFirstMatchesRow.holds Tryf.pinned (OpenSpec.ofChange fnFlagReadsCommuteAndMarkFirstMatchesWrong)

end Rows
end Go.Proofs.Qxb6613560aFmt
