/-
  THE CLOSED FACTS FOR A WALK OVER fmt's STOPPED FRONT, AND fmt.Errorf BY ITS CONTRACT at the one format of these roads, for every F.
-/
import Derived.Test.Qxb6613560aFmtRows
import Derived.Stop.CallBack
import Derived.Stop.IfaceNil
import GoSem.ClaimData
import Derived.WalkKit
import Derived.WalkSpells
import Derived.ProofKit
import Derived.WalkLawsBesides
import Derived.OwnWalk
namespace Go.Proofs.Qxb6613560aFmt
open Go.RowKit Go.Extern.Stop Go.Stop Go.Extern

theorem call20 (args : Array Value) (w : World) : (callFunc 20 args).run Tryf.prog w = (FmtCalls.errorf #[9, 48] #[38] args).run Tryf.prog w :=
  run_callFunc_next Tryf.func20 (by kernel_rfl) (by kernel_rfl) (by kernel_rfl) args w
theorem guard (name : String) (w : World) : (FmtStop.guard name).run Tryf.prog w = .ok () w := by kernel_rfl
theorem nextTurns : Extern.next FmtCalls.turnsRow = some (FmtCalls.begun #[] #[]) := by kernel_rfl
theorem nextReturned : Extern.next FmtCalls.returnedRow = some (FmtCalls.returned #[] #[]) := by kernel_rfl
theorem fmt0 : FmtStop.printed? ⟨#[37, 113, 32, 105, 115, 32, 110, 111, 116, 32, 116, 114, 117, 101, 32, 111, 114, 32, 102, 97, 108, 115, 101]⟩ 1 = some [(0, 113, false)] := by kernel_rfl
theorem fmt0r (w : World) : (FmtDoors.printed ⟨#[37, 113, 32, 105, 115, 32, 110, 111, 116, 32, 116, 114, 117, 101, 32, 111, 114, 32, 102, 97, 108, 115, 101]⟩ 1).run Tryf.prog w = .ok [(0, 113, false)] w := by kernel_rfl
def shape9 : List UInt8 := [12, 6, 0, 0, 0, 0, 0, 0, 0, 115, 116, 114, 105, 110, 103]
theorem act9_113w (name : String) (x : Value) (w : World) : (FmtCalls.act name true 113 false (.iface 9 x)).run Tryf.prog w = .ok (.closed true) w := by kernel_rfl
theorem op9_113w (name : String) (x : ByteArray) (w : World) : (FmtStop.operand name true 113 false (.iface 9 (.string x))).run Tryf.prog w = .ok (shape9, FmtStop.pack x.data.toList) w := by kernel_rfl
theorem ptr52 (w : World) : (FmtStop.ptrTo "errors.errorString").run Tryf.prog w = .ok 52 w := by kernel_rfl
theorem elem52 (w : World) : (elemOf 52).run Tryf.prog w = .ok 54 w := by kernel_rfl

section
attribute [local go_sem] call20 guard fmt0 fmt0r act9_113w op9_113w ptr52 elem52
set_option maxHeartbeats 800000 in
theorem errorf_any (F : Interp) (key : ByteArray) (b : Nat) (w : World) (hF : F.answers w.tape) (hc : w.cell? ⟨b, 0, none⟩ = some (.iface 9 (.string key))) :
    Calls Tryf.prog 19 #[.string ⟨#[37, 113, 32, 105, 115, 32, 110, 111, 116, 32, 116, 114, 117, 101, 32, 111, 114, 32, 102, 97, 108, 115, 101]⟩, .slice (some ⟨b, 0, none⟩) 1 1] w fun e w' =>
      (∃ p, e = .returned (.iface 52 (.pointer (some p)))) ∧ Below w.heap.size w w' := by
  have hF' := answers_open hF
  go_enter Tryf.func19, Tryf.ntmps19
  go_wp2
  apply rows_value nextTurns
  case hr =>
    go_simp
    exact ⟨rfl, rfl⟩
  case h =>
    go_wp2
    go_ret
    exact ⟨⟨_, rfl⟩, ((Below.refl _ _).alloc (Nat.le_refl _) _).drew⟩
end
end Go.Proofs.Qxb6613560aFmt
