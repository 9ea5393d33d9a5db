/-
  THE CLOSED FACTS FOR A WALK OVER fmt's STOPPED FRONT, AND fmt.Errorf BY ITS CONTRACT at the four formats of this road, for every F.
-/
import Derived.Test.Qxb6613562aFmtRows
import Derived.Stop.CallBack
import Derived.Stop.IfaceNil
import GoSem.ClaimData
import Derived.WalkKit
import Derived.WalkSpells
import Derived.ProofKit
import Derived.WalkLawsBesides
import Derived.OwnWalk
namespace Go.Proofs.Qxb6613562aFmt
open Go.RowKit Go.Extern.Stop Go.Stop Go.Extern

def fmtA : ByteArray := ⟨#[110, 111, 116, 32, 97, 32, 37, 115, 32, 114, 101, 115, 111, 117, 114, 99, 101]⟩
def fmtB : ByteArray := ⟨#[97, 32, 37, 115, 32, 104, 97, 115, 32, 110, 111, 32, 117, 114, 108]⟩
def fmtC : ByteArray := ⟨#[37, 115, 32, 37, 115, 58, 32, 118, 101, 114, 115, 105, 111, 110, 32, 105, 115, 32, 110, 111, 116, 32, 97, 32, 115, 116, 114, 105, 110, 103]⟩
def fmtD : ByteArray := ⟨#[86, 97, 108, 117, 101, 83, 101, 116, 32, 37, 115, 58, 32, 99, 111, 110, 116, 97, 105, 110, 101, 100, 32, 105, 115, 32, 110, 111, 116, 32, 97, 110, 32, 97, 114, 114, 97, 121]⟩

theorem call19 (args : Array Value) (w : World) : (callFunc 19 args).run Tryf.prog w = ((FmtStop.errorf #[9, 37] #[30] args).run Tryf.prog w).andThen fun v w' => .ok (.value v) w' :=
  run_callFunc_extern Tryf.func19 (by kernel_rfl) (by kernel_rfl) (by kernel_rfl) (by kernel_rfl) args w
theorem guard (name : String) (w : World) : (FmtStop.guard name).run Tryf.prog w = .ok () w := by kernel_rfl
theorem fmtAr (w : World) : (FmtDoors.printed fmtA 1).run Tryf.prog w = .ok [(0, 115, false)] w := by kernel_rfl
theorem fmtBr (w : World) : (FmtDoors.printed fmtB 1).run Tryf.prog w = .ok [(0, 115, false)] w := by kernel_rfl
theorem fmtCr (w : World) : (FmtDoors.printed fmtC 2).run Tryf.prog w = .ok [(0, 115, false), (1, 115, false)] w := by kernel_rfl
theorem fmtDr (w : World) : (FmtDoors.printed fmtD 1).run Tryf.prog w = .ok [(0, 115, false)] w := by kernel_rfl
def shape9 : List UInt8 := [12, 6, 0, 0, 0, 0, 0, 0, 0, 115, 116, 114, 105, 110, 103]
theorem op9_115w (name : String) (x : ByteArray) (w : World) : (FmtStop.operand name true 115 false (.iface 9 (.string x))).run Tryf.prog w = .ok (shape9, FmtStop.pack x.data.toList) w := by kernel_rfl
theorem ptr56 (w : World) : (FmtStop.ptrTo "errors.errorString").run Tryf.prog w = .ok 56 w := by kernel_rfl
theorem elem56 (w : World) : (elemOf 56).run Tryf.prog w = .ok 58 w := by kernel_rfl

/-- What Errorf leaves: a new error, and nothing else is turned. -/
def ErrPost (w : World) (e : Ending) (w' : World) : Prop := (∃ p, e = .returned (.iface 56 (.pointer (some p)))) ∧ Below w.heap.size w w'

section
attribute [local go_sem] call19 guard fmtAr fmtBr fmtCr fmtDr op9_115w ptr56 elem56
set_option maxHeartbeats 800000 in
theorem errorf1 (f : ByteArray) (hf : ∀ w, (FmtDoors.printed f 1).run Tryf.prog w = .ok [(0, 115, false)] w) (F : Interp) (s : ByteArray) (b : Nat) (w : World) (hF : F.answers w.tape) (hc : w.cell? ⟨b, 0, none⟩ = some (.iface 9 (.string s))) :
    Calls Tryf.prog 15 #[.string f, .slice (some ⟨b, 0, none⟩) 1 1] w (ErrPost w) := by
  have hF' := answers_open hF
  go_enter Tryf.func15, Tryf.ntmps15
  go_wp2
  go_ret
  exact ⟨⟨_, rfl⟩, ((Below.refl _ _).alloc (Nat.le_refl _) _).drew⟩

set_option maxHeartbeats 800000 in
theorem errorf2 (F : Interp) (s t : ByteArray) (b : Nat) (w : World) (hF : F.answers w.tape) (hc : w.cell? ⟨b, 0, none⟩ = some (.iface 9 (.string s))) (hd : w.cell? ⟨b, 1, none⟩ = some (.iface 9 (.string t))) :
    Calls Tryf.prog 15 #[.string fmtC, .slice (some ⟨b, 0, none⟩) 2 2] w (ErrPost w) := by
  have hF' := answers_open hF
  go_enter Tryf.func15, Tryf.ntmps15
  go_wp2
  go_ret
  exact ⟨⟨_, rfl⟩, ((Below.refl _ _).alloc (Nat.le_refl _) _).drew⟩
end
end Go.Proofs.Qxb6613562aFmt
