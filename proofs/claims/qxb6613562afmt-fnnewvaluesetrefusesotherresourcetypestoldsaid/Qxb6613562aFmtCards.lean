/-
  DERIVED. GIVEN WITH THE SEED: THE CARDS: each row of Qxb6613562aFmtRows.lean that lists a variable, with what it lists TIED to the program's text (the seventh form; the later family's looks); each row that meets fmt, with fmt's text TOLD by the authors' own Lean function (tested against real Go, not proved from fmt's source: count such statements apart). THE CARD IS WHAT COUNTS. Prove the row's statement (the work); the ties are given (Qxb6613562aFmtTie.lean); close each card by the builder's one call (the guide's Derived/Test/ToyasCard.lean, 'card_holds'). Laid BY PROGRAM, IN A SANDBOX (cutbox-door.mjs). By AI agents, Wed Nov 11 2026. No macro, syntax, notation, axiom, sorry.
-/
import Derived.Test.Qxb6613562aFmtRows
import GoSem.ClaimSeven
namespace Go.Proofs.Qxb6613562aFmt
namespace Rows

/-- THE TOLD CARD OF 'zzlaws_terminology_b1.FnNewValueSetRefusesOtherResourceTypes'. -/
def fnNewValueSetRefusesOtherResourceTypesCard : Claim7 := { stood := { row := fnNewValueSetRefusesOtherResourceTypesRow, standIns := [], harness := (true, "976085e3f79ba9d1a8b2a7d188ced522cdaa6f92fe096f50e4eb6e04c46c6114"), looks := true }, told := true, goes := false }
def FnNewValueSetRefusesOtherResourceTypesToldSaid : Prop := Claim7.holds Tryf.pinned (.plain (OpenSpec.ofChange fnNewValueSetRefusesOtherResourceTypesSpec)) fnNewValueSetRefusesOtherResourceTypesCard
/-- ITS FALSE NEIGHBOUR. Refute it at one input. -/
def FnNewValueSetRefusesOtherResourceTypesToldWrongFalsely : Prop := Claim7.holds Tryf.pinned (.plain (OpenSpec.ofChange fnNewValueSetRefusesOtherResourceTypesWrong)) fnNewValueSetRefusesOtherResourceTypesCard
end Rows
end Go.Proofs.Qxb6613562aFmt
