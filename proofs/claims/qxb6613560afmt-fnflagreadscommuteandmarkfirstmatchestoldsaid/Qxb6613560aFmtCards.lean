/-
  DERIVED. GIVEN WITH THE SEED: THE CARDS: each row of Qxb6613560aFmtRows.lean that lists a variable, with what it lists TIED to the program's text (the seventh form; the later family's looks); each row that meets fmt, with fmt's text TOLD by the authors' own Lean function (tested against real Go, not proved from fmt's source: count such statements apart). THE CARD IS WHAT COUNTS. Prove the row's statement (the work); the ties are given (Qxb6613560aFmtTie.lean); close each card by the builder's one call (the guide's Derived/Test/ToyasCard.lean, 'card_holds'). Laid BY PROGRAM, IN A SANDBOX (cutbox-door.mjs). By AI agents, Wed Nov 11 2026. No macro, syntax, notation, axiom, sorry.
-/
import Derived.Test.Qxb6613560aFmtRows
import GoSem.ClaimSeven
namespace Go.Proofs.Qxb6613560aFmt
namespace Rows

/-- THE TOLD CARD OF 'zzlaws_root_b1.FnFlagReadTwiceAgreesWithFirstMatchingKey'. -/
def fnFlagReadTwiceAgreesWithFirstMatchingKeyCard : Claim7 := { stood := { row := fnFlagReadTwiceAgreesWithFirstMatchingKeyRow, standIns := [], harness := (true, "e220950f045323b0e5a067a1bb9694ad52fee43ba9c160b1e840ba3c51b33c9c"), looks := false }, told := true, goes := false }
def FnFlagReadTwiceAgreesWithFirstMatchingKeyToldSaid : Prop := Claim7.holds Tryf.pinned (.plain (OpenSpec.ofChange fnFlagReadTwiceAgreesWithFirstMatchingKeySpec)) fnFlagReadTwiceAgreesWithFirstMatchingKeyCard
/-- ITS FALSE NEIGHBOUR. Refute it at one input. -/
def FnFlagReadTwiceAgreesWithFirstMatchingKeyToldWrongFalsely : Prop := Claim7.holds Tryf.pinned (.plain (OpenSpec.ofChange fnFlagReadTwiceAgreesWithFirstMatchingKeyWrong)) fnFlagReadTwiceAgreesWithFirstMatchingKeyCard

/-- THE TOLD CARD OF 'zzlaws_root_b1.FnFlagReadsCommuteAndMarkFirstMatches'. -/
def fnFlagReadsCommuteAndMarkFirstMatchesCard : Claim7 := { stood := { row := fnFlagReadsCommuteAndMarkFirstMatchesRow, standIns := [], harness := (true, "e220950f045323b0e5a067a1bb9694ad52fee43ba9c160b1e840ba3c51b33c9c"), looks := false }, told := true, goes := false }
def FnFlagReadsCommuteAndMarkFirstMatchesToldSaid : Prop := Claim7.holds Tryf.pinned (.plain (OpenSpec.ofChange fnFlagReadsCommuteAndMarkFirstMatchesSpec)) fnFlagReadsCommuteAndMarkFirstMatchesCard
/-- ITS FALSE NEIGHBOUR. Refute it at one input. -/
def FnFlagReadsCommuteAndMarkFirstMatchesToldWrongFalsely : Prop := Claim7.holds Tryf.pinned (.plain (OpenSpec.ofChange fnFlagReadsCommuteAndMarkFirstMatchesWrong)) fnFlagReadsCommuteAndMarkFirstMatchesCard
end Rows
end Go.Proofs.Qxb6613560aFmt
