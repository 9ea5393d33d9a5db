/-
  No cell of these rows narrows 'for every input' (looked for: loops, veiled, ifaces, maps, wideKeys, modest, calm, conditions, laid).
  DERIVED. THE GIVEN ROWS OF THIS SEAT. 1 by the template 'for every input the law returns true; each argument reads behind the call as it read before'; 0 by the template 'total and deterministic' (their statements: Qxb6613560aTotals.lean).
  GIVEN WITH THE SEED: the statements are not yours to turn. If you find one false, say at which input.
  Laid BY PROGRAM, IN A SANDBOX (cutbox-rows.mjs): the forced cells as the released guide's own fill.sh prints them over the translation d26c87e9ab097f9e… (all of the seat's roots in one cut). By AI agents, Wed Nov 11 2026. No macro, syntax, notation, axiom, sorry.
-/
import Derived.Test.Qxb6613560aChecked
import GoSem.Claim
import GoSem.ClaimJoined
import GoSem.ClaimMapViews
import Derived.JoinedTies
import Derived.KernelRfl
namespace Go.Proofs.Qxb6613560a
/- THE CELL 'sum', in the pinned program and in every row, IS THE sha256 OF THE DUMP (.gsa) THAT Qxb6613560aProg.lean LOADS. Nothing in Lean hashes anything: it is a label: what it is worth is what the hold of that sum in a sandbox is worth. -/
noncomputable def Try.pinned : Pinned := { name := "qxb6613560a", sum := "d26c87e9ab097f9e005f6a1b63d5893cd4844bda0c565f8122051922678a0fb5", checked := Try.checked }
namespace Rows
def none {H : Type} : Left H := { results := [], args := [] }

/-- 'zzlaws_root_b1.FnPoolSaveIsOneMoreOpenSavepoint': WHATEVER THE INPUT: true; the input reads as it did. -/
def fnPoolSaveIsOneMoreOpenSavepointSpec : ChangeSpec := { name := "fnPoolSaveIsOneMoreOpenSavepoint", fn := fun _ => fun
  | [d1, d2, d3, d4, d5, d6, d7, d8, d9, d10, d11] => { results := [.lit (.bool true)], args := [d1, d2, d3, d4, d5, d6, d7, d8, d9, d10, d11] }
  | _ => none }
def fnPoolSaveIsOneMoreOpenSavepointRow : OpenClaim := { program := "qxb6613560a", sum := "d26c87e9ab097f9e005f6a1b63d5893cd4844bda0c565f8122051922678a0fb5", func := "example.com/keelpool/keelpool/zzlaws_root_b1.FnPoolSaveIsOneMoreOpenSavepoint", spec := "fnPoolSaveIsOneMoreOpenSavepoint", apart := false }
def FnPoolSaveIsOneMoreOpenSavepointSaid : Prop := fnPoolSaveIsOneMoreOpenSavepointRow.holds Try.pinned (OpenSpec.ofChange fnPoolSaveIsOneMoreOpenSavepointSpec)

/-- ITS FALSE NEIGHBOUR: 'it returns false'. Refute it at one input. -/
def fnPoolSaveIsOneMoreOpenSavepointWrong : ChangeSpec := { name := "fnPoolSaveIsOneMoreOpenSavepoint", fn := fun _ => fun
  | [d1, d2, d3, d4, d5, d6, d7, d8, d9, d10, d11] => { results := [.lit (.bool false)], args := [d1, d2, d3, d4, d5, d6, d7, d8, d9, d10, d11] }
  | _ => none }
def FnPoolSaveIsOneMoreOpenSavepointWrongFalsely : Prop := fnPoolSaveIsOneMoreOpenSavepointRow.holds Try.pinned (OpenSpec.ofChange fnPoolSaveIsOneMoreOpenSavepointWrong)

end Rows
end Go.Proofs.Qxb6613560a
