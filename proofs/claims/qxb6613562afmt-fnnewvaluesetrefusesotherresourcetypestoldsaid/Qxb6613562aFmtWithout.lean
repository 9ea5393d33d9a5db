/-
  maps.Clone (21) AND without (16) BY THEIR CONTRACTS.
-/
import Derived.Test.Qxb6613562aFmtPut
namespace Go.Proofs.Qxb6613562aFmt
open Go.RowKit Go.Extern.Stop Go.Stop Go.Extern

theorem call22 (args : Array Value) (w : World) : (callFunc 22 args).run Tryf.prog w = ((MapsClone.clone args).run Tryf.prog w).andThen fun v w' => .ok (.value v) w' :=
  run_callFunc_extern Tryf.func22 (by kernel_rfl) (by kernel_rfl) (by kernel_rfl) (by kernel_rfl) args w
theorem ta25 (w : World) (r : Nat) : (Instr.typeAssert (.iface 25 (.map (some r))) 20 25 false).run Tryf.prog w = .ok (.map (some r)) w := by kernel_rfl
theorem eq25 (w : World) (r : Nat) : (binOp .eql 25 (.map (some r)) (.map none)).run Tryf.prog w = .ok (.bool false) w := by kernel_rfl

section
attribute [local go_sem] call22 ta25 eq25
theorem clone21 (w : World) (b : Nat) (f : ByteArray → Option Value) (h : MapAt w b f) : Calls Tryf.prog 21 #[.map (some b)] w fun e w' => e = .returned (.map (some w.heap.size)) ∧ MapAt w' w.heap.size f ∧ Below w.heap.size w w' := by
  obtain ⟨es, c, hr, hm⟩ := run_clone (P := Tryf.prog) h 25
  have H : Hid (MapAt (w.alloc (.map es c)) w.heap.size f) := hm
  clear h hm
  go_enter Tryf.func21, Tryf.ntmps21
  go_wp2
  go_ret
  exact ⟨rfl, H.out, (Below.refl _ w).alloc (Nat.le_refl _) _⟩

/-- What without leaves. -/
def WithoutPost (w : World) (f : ByteArray → Option Value) (e : Ending) (w' : World) : Prop :=
  ∃ M g, e = .returned (.map (some M)) ∧ MapAt w' M g ∧ g kRT = f kRT ∧ Below w.heap.size w w'

set_option maxHeartbeats 1000000 in
theorem without16 (w : World) (b : Nat) (f : ByteArray → Option Value) (h : MapAt w b f) (S : Nat) (hS : S < w.heap.size) (c0 : w.cell? ⟨S, 0, none⟩ = some (.string ⟨#[101, 120, 112, 97, 110, 115, 105, 111, 110]⟩)) (c1 : w.cell? ⟨S, 1, none⟩ = some (.string ⟨#[109, 101, 116, 97]⟩)) (c2 : w.cell? ⟨S, 2, none⟩ = some (.string ⟨#[116, 101, 120, 116]⟩)) :
    Calls Tryf.prog 16 #[.map (some b), .slice (some ⟨S, 0, none⟩) 3 3] w (WithoutPost w f) := by
  have HC := clone21 w b f h
  have C : Hid (∀ k : Nat, k < 3 → ∃ s, w.cell? ⟨S, k, none⟩ = some (.string s) ∧ kRT ≠ s) := by
    intro k hk
    obtain rfl | rfl | rfl : k = 0 ∨ k = 1 ∨ k = 2 := by omega
    · exact ⟨_, c0, by decide⟩
    · exact ⟨_, c1, by decide⟩
    · exact ⟨_, c2, by decide⟩
  clear h c0 c1 c2
  go_enter Tryf.func16, Tryf.ntmps16
  go_wp2_with fail
  refine HC.mono ?_
  rintro e w1 ⟨rfl, hm, hb⟩
  clear HC
  go_wp2_with fail
  go_loopw [12] (fun i wr => ∃ k : Nat, ∃ g : ByteArray → Option Value, k ≤ 3 ∧ i = .int .i64 k ∧ MapAt wr w.heap.size g ∧ g kRT = f kRT ∧ Below w.heap.size w wr) (fun i _ => 3 - (intOf i).toNat)
  case atStart => exact ⟨0, f, by omega, rfl, hm, rfl, hb⟩
  case round =>
    obtain ⟨k, g, hk, rfl, hg, hgr, hbel⟩ := hrel
    clear hm hb
    by_cases hlt : k < 3
    · obtain ⟨s, cs, hne⟩ := C.out k hlt
      have cs' : wr.cell? ⟨S, k, none⟩ = some (.string s) := (hbel.cell (p := ⟨S, k, none⟩) hS).trans cs
      obtain ⟨w2, g', hr, hm2, hg2, ho⟩ := run_drop hg Tryf.underlying25 Tryf.underlying9 s
      have HW : Hid (MapAt w2 w.heap.size g' ∧ g' kRT = f kRT ∧ Below w.heap.size w w2) := ⟨hm2, (hg2 _ hne).trans hgr, hbel.trans (ho.below (Nat.le_refl _) hbel.size)⟩
      clear hg hgr hbel cs hm2 hg2 ho hne
      go_wp2
      go_roundw
      case rel => exact ⟨k + 1, g', by omega, by go_num, HW.out.1, HW.out.2.1, HW.out.2.2⟩
      case measure => simp [intOf]; omega
    · have HW : Hid (MapAt wr w.heap.size g ∧ g kRT = f kRT ∧ Below w.heap.size w wr) := ⟨hg, hgr, hbel⟩
      clear hg hgr hbel
      go_wp2
      go_ret
      exact ⟨_, g, rfl, HW.out.1, HW.out.2.1, HW.out.2.2⟩
end
end Go.Proofs.Qxb6613562aFmt
