/-
  No cell of these rows narrows 'for every input' (looked for: loops, veiled, ifaces, maps, wideKeys, modest, calm, conditions, laid).
  DERIVED. THE GIVEN ROWS OF THIS SEAT. 1 by the template 'for every input the law returns true; each argument reads behind the call as it read before'; 0 by the template 'total and deterministic' (their statements: Qxb6613562aFmtTotals.lean).
  GIVEN WITH THE SEED: the statements are not yours to turn. If you find one false, say at which input.
  Laid BY PROGRAM, IN A SANDBOX (cutbox-rows.mjs): the forced cells as the released guide's own fill.sh prints them over the translation 2fabadf51c427d81… (all of the seat's roots in one cut). By AI agents, Wed Nov 11 2026. No macro, syntax, notation, axiom, sorry.
-/
import Derived.Test.Qxb6613562aFmtChecked
import GoSem.Claim
import GoSem.ClaimJoined
import GoSem.ClaimMapViews
import Derived.JoinedTies
import Derived.KernelRfl
namespace Go.Proofs.Qxb6613562aFmt
/- THE CELL 'sum', in the pinned program and in every row, IS THE sha256 OF THE DUMP (.gsa) THAT Qxb6613562aFmtProg.lean LOADS. Nothing in Lean hashes anything: it is a label: what it is worth is what the hold of that sum in a sandbox is worth. -/
noncomputable def Tryf.pinned : Pinned := { name := "qxb6613562afmt", sum := "2fabadf51c427d8172a2e968963f7d8a00bd77de832115cfac39f96abd6e5ab4", checked := Tryf.checked }
namespace Rows
def none {H : Type} : Left H := { results := [], args := [] }

/-- 'zzlaws_terminology_b1.FnNewValueSetRefusesOtherResourceTypes': WHATEVER THE INPUT: true; the input reads as it did. -/
def fnNewValueSetRefusesOtherResourceTypesSpec : ChangeSpec := { name := "fnNewValueSetRefusesOtherResourceTypes", fn := fun _ => fun
  | [d1, d2] => { results := [.lit (.bool true)], args := [d1, d2] }
  | _ => none }
def fnNewValueSetRefusesOtherResourceTypesRow : OpenClaim := { program := "qxb6613562afmt", sum := "2fabadf51c427d8172a2e968963f7d8a00bd77de832115cfac39f96abd6e5ab4", func := "example.com/codeshelf/codeshelf/zzlaws_terminology_b1.FnNewValueSetRefusesOtherResourceTypes", spec := "fnNewValueSetRefusesOtherResourceTypes", stops := ["fmt.errorf"], inPlace := ["fmt.errorf", "maps.clone"], apart := false }
/-- NO THEOREM (fmt's text is open here; it may be false): for the released tool's asking of the row's closed facts alone. THE STATEMENT IS 'FnNewValueSetRefusesOtherResourceTypesToldSaid' (Qxb6613562aFmtCards.lean). -/
def FnNewValueSetRefusesOtherResourceTypesFormAsk : Prop := fnNewValueSetRefusesOtherResourceTypesRow.holds Tryf.pinned (OpenSpec.ofChange fnNewValueSetRefusesOtherResourceTypesSpec)

/-- ITS FALSE NEIGHBOUR: 'it returns false'. Refute it at one input. -/
def fnNewValueSetRefusesOtherResourceTypesWrong : ChangeSpec := { name := "fnNewValueSetRefusesOtherResourceTypes", fn := fun _ => fun
  | [d1, d2] => { results := [.lit (.bool false)], args := [d1, d2] }
  | _ => none }
def FnNewValueSetRefusesOtherResourceTypesWrongFormAsk : Prop := fnNewValueSetRefusesOtherResourceTypesRow.holds Tryf.pinned (OpenSpec.ofChange fnNewValueSetRefusesOtherResourceTypesWrong)

end Rows
end Go.Proofs.Qxb6613562aFmt
