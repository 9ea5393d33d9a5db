/-
  THE SMALL FUNCTIONS OF THE ROAD BY THEIR CONTRACTS: ZZputString (7), ZZputArray (12), ZZputBool (13), ZZnewResource (11), identity (14).
-/
import Derived.Test.Qxb6613562aFmtMaps
namespace Go.Proofs.Qxb6613562aFmt
open Go.RowKit Go.Extern.Stop Go.Stop Go.Extern

theorem zero20 (w : World) : (zeroValue 20).run Tryf.prog w = .ok .nilIface w := by kernel_rfl
abbrev kRT : ByteArray := ⟨#[114, 101, 115, 111, 117, 114, 99, 101, 84, 121, 112, 101]⟩
abbrev kVS : ByteArray := ⟨#[86, 97, 108, 117, 101, 83, 101, 116]⟩
abbrev kURL : ByteArray := ⟨#[117, 114, 108]⟩
abbrev kVER : ByteArray := ⟨#[118, 101, 114, 115, 105, 111, 110]⟩
abbrev kCON : ByteArray := ⟨#[99, 111, 110, 116, 97, 105, 110, 101, 100]⟩

theorem eq_bytes (a b : ByteArray) : (a.toList == b.toList) = decide (a = b) := by
  rw [ByteArray.toList_eq, ByteArray.toList_eq, Bool.eq_iff_iff]
  simp only [beq_iff_eq, decide_eq_true_eq]
  constructor
  · intro h
    obtain ⟨⟨x⟩⟩ := a
    obtain ⟨⟨y⟩⟩ := b
    simp at h
    rw [h]
  · intro h; rw [h]

theorem neq_str0 (w : World) (s t : ByteArray) : (binOp .neq 20 (.iface 9 (.string s)) (.iface 9 (.string t))).run Tryf.prog w = .ok (.bool (!(s == t))) w := by kernel_rfl
theorem neq_str (w : World) (s t : ByteArray) : (binOp .neq 20 (.iface 9 (.string s)) (.iface 9 (.string t))).run Tryf.prog w = .ok (.bool (!decide (s = t))) w := by
  rw [neq_str0]
  congr 3
  rw [Bool.eq_iff_iff, MapKept.bytes_beq, decide_eq_true_eq]

theorem ta9_nil (w : World) : (Instr.typeAssert .nilIface 20 9 true).run Tryf.prog w = .ok (.tuple #[.string ⟨#[]⟩, .bool false]) w := by kernel_rfl
theorem ta9_str (w : World) (s : ByteArray) : (Instr.typeAssert (.iface 9 (.string s)) 20 9 true).run Tryf.prog w = .ok (.tuple #[.string s, .bool true]) w := by kernel_rfl
theorem ta9_bool (w : World) : (Instr.typeAssert (.iface 4 (.bool true)) 20 9 true).run Tryf.prog w = .ok (.tuple #[.string ⟨#[]⟩, .bool false]) w := by kernel_rfl
theorem ta9_slice (w : World) (a : Option Addr) (n c : Nat) : (Instr.typeAssert (.iface 37 (.slice a n c)) 20 9 true).run Tryf.prog w = .ok (.tuple #[.string ⟨#[]⟩, .bool false]) w := by kernel_rfl
theorem ta37_nil (w : World) : (Instr.typeAssert .nilIface 20 37 true).run Tryf.prog w = .ok (.tuple #[.slice none 0 0, .bool false]) w := by kernel_rfl
theorem ta37_str (w : World) (s : ByteArray) : (Instr.typeAssert (.iface 9 (.string s)) 20 37 true).run Tryf.prog w = .ok (.tuple #[.slice none 0 0, .bool false]) w := by kernel_rfl
theorem ta37_bool (w : World) : (Instr.typeAssert (.iface 4 (.bool true)) 20 37 true).run Tryf.prog w = .ok (.tuple #[.slice none 0 0, .bool false]) w := by kernel_rfl
theorem ta37_slice (w : World) (a : Option Addr) (n c : Nat) : (Instr.typeAssert (.iface 37 (.slice a n c)) 20 37 true).run Tryf.prog w = .ok (.tuple #[.slice a n c, .bool true]) w := by kernel_rfl

def PutPost (w : World) (b : Nat) (f : ByteArray → Option Value) (k : ByteArray) (v : Value) (e : Ending) (w' : World) : Prop :=
  e = .returned (.tuple #[]) ∧ MapAt w' b (upd f k v) ∧ Only b w w'

theorem put7 (w : World) (b : Nat) (f : ByteArray → Option Value) (k v : ByteArray) (h : MapAt w b f) : Calls Tryf.prog 7 #[.map (some b), .string k, .string v] w (PutPost w b f k (.iface 9 (.string v))) := by
  obtain ⟨w', hr, hm, ho⟩ := run_put h Tryf.underlying25 Tryf.underlying9 k (.iface 9 (.string v))
  have H : Hid (MapAt w' b (upd f k (.iface 9 (.string v))) ∧ Only b w w') := ⟨hm, ho⟩
  clear h hm ho
  go_enter Tryf.func7, Tryf.ntmps7
  go_wp2
  go_end0
  exact ⟨rfl, H.out.1, H.out.2⟩

theorem put13 (w : World) (b : Nat) (f : ByteArray → Option Value) (k : ByteArray) (h : MapAt w b f) : Calls Tryf.prog 13 #[.map (some b), .string k] w (PutPost w b f k (.iface 4 (.bool true))) := by
  obtain ⟨w', hr, hm, ho⟩ := run_put h Tryf.underlying25 Tryf.underlying9 k (.iface 4 (.bool true))
  have H : Hid (MapAt w' b (upd f k (.iface 4 (.bool true))) ∧ Only b w w') := ⟨hm, ho⟩
  clear h hm ho
  go_enter Tryf.func13, Tryf.ntmps13
  go_wp2
  go_end0
  exact ⟨rfl, H.out.1, H.out.2⟩

theorem put12 (w : World) (b : Nat) (f : ByteArray → Option Value) (k v : ByteArray) (h : MapAt w b f) : Calls Tryf.prog 12 #[.map (some b), .string k, .string v] w (PutPost w b f k (.iface 37 (.slice (some ⟨w.heap.size, 0, none⟩) 1 1))) := by
  have hb := (Below.refl w.heap.size w).alloc (Nat.le_refl _) (.cells #[.iface 9 (.string v)] 20)
  obtain ⟨w', hr, hm, ho⟩ := run_put (h.below hb) Tryf.underlying25 Tryf.underlying9 k (.iface 37 (.slice (some ⟨w.heap.size, 0, none⟩) 1 1))
  have H : Hid (MapAt w' b (upd f k (.iface 37 (.slice (some ⟨w.heap.size, 0, none⟩) 1 1))) ∧ Only b w w') := ⟨hm, (Only.of_below hb).trans ho⟩
  clear h hm ho hb
  go_enter Tryf.func12, Tryf.ntmps12
  go_wp2
  go_end0
  exact ⟨rfl, H.out.1, H.out.2⟩

theorem new11 (w : World) : Calls Tryf.prog 11 #[] w fun e w' => e = .returned (.map (some w.heap.size)) ∧ MapAt w' w.heap.size (fun _ => none) ∧ Below w.heap.size w w' := by
  have hmm := @run_makeMap Tryf.prog
  go_enter Tryf.func11, Tryf.ntmps11
  go_wp2
  go_ret
  exact ⟨rfl, ⟨#[], 0, heap_alloc_new _ _, fun e he => by simp at he, fun k => rfl⟩, (Below.refl _ w).alloc (Nat.le_refl _) _⟩

/-- What identity leaves. -/
def IdPost (w : World) (r : Option (ByteArray × ByteArray)) (e : Ending) (w' : World) : Prop :=
  (match r with
   | some (u, v) => e = .returned (.tuple #[.string u, .string v, .nilIface])
   | none => ∃ p, e = .returned (.tuple #[.string ⟨#[]⟩, .string ⟨#[]⟩, .iface 56 (.pointer (some p))])) ∧ Below w.heap.size w w'

set_option maxHeartbeats 1000000 in
theorem id_other (F : Interp) (w : World) (hF : F.answers w.tape) (b : Nat) (f : ByteArray → Option Value) (h : MapAt w b f) (s : ByteArray) (hs : f kRT = some (.iface 9 (.string s))) (hne : s ≠ kVS) :
    Calls Tryf.prog 14 #[.map (some b), .string kVS, .bool false] w (IdPost w none) := by
  have hl := run_look h Tryf.underlying25 Tryf.underlying9 zero20 kRT
  rw [hs] at hl
  have hq : ∀ w, (binOp .neq 20 (.iface 9 (.string s)) (.iface 9 (.string kVS))).run Tryf.prog w = .ok (.bool true) w := fun w => by rw [neq_str, decide_eq_false hne]; rfl
  clear h hs
  go_enter Tryf.func14, Tryf.ntmps14
  go_wp2_with fail
  refine (errorf1 fmtA fmtAr F kVS w.heap.size (w.alloc (.cells #[.iface 9 (.string kVS)] 20)) hF (by simp)).mono ?_
  rintro e w1 ⟨⟨p, rfl⟩, hb⟩
  have HB : Hid (Below w.heap.size w w1) := ((Below.refl _ w).alloc (Nat.le_refl _) _).trans (hb.mono (by simp))
  clear hb
  go_wp2
  exact bodyPost_ret (v := .tuple #[.string ⟨#[]⟩, .string ⟨#[]⟩, .iface 56 (.pointer (some p))]) (by simp [results, Tryf.results14, go_sem]) rfl ⟨⟨p, rfl⟩, HB.out⟩

/-- What the member under a key may be. -/
def Shape (v : Value) : Prop := v = .nilIface ∨ (∃ s, v = .iface 9 (.string s)) ∨ v = .iface 4 (.bool true) ∨ ∃ a n c, v = .iface 37 (.slice a n c)
/-- A member read as a text: what is not there reads as the empty one. -/
def txt : Value → Option ByteArray
  | .nilIface => some ⟨#[]⟩
  | .iface 9 (.string s) => some s
  | _ => none

section
attribute [local go_sem] ta9_nil ta9_str ta9_bool ta9_slice
set_option maxHeartbeats 1000000 in
theorem id_any (F : Interp) (w : World) (hF : F.answers w.tape) (b : Nat) (f : ByteArray → Option Value) (h : MapAt w b f) (hs : f kRT = some (.iface 9 (.string kVS))) (hu : Shape ((f kURL).getD .nilIface)) (hv : Shape ((f kVER).getD .nilIface)) :
    Calls Tryf.prog 14 #[.map (some b), .string kVS, .bool false] w (IdPost w ((txt ((f kURL).getD .nilIface)).bind fun u => (txt ((f kVER).getD .nilIface)).map fun v => (u, v))) := by
  have hl := run_look h Tryf.underlying25 Tryf.underlying9 zero20 kRT
  have hlu := run_look h Tryf.underlying25 Tryf.underlying9 zero20 kURL
  have hlv := run_look h Tryf.underlying25 Tryf.underlying9 zero20 kVER
  rw [hs] at hl
  have hq : ∀ w, (binOp .neq 20 (.iface 9 (.string kVS)) (.iface 9 (.string kVS))).run Tryf.prog w = .ok (.bool false) w := fun w => by rw [neq_str, decide_eq_true rfl]; rfl
  clear h hs
  generalize (f kURL).getD .nilIface = uv at *
  generalize (f kVER).getD .nilIface = vv at *
  rcases hu with rfl | ⟨s, rfl⟩ | rfl | ⟨a, n, c, rfl⟩
  · rcases hv with rfl | ⟨s', rfl⟩ | rfl | ⟨a, n, c, rfl⟩
    · go_enter Tryf.func14, Tryf.ntmps14
      go_wp2
      exact bodyPost_ret (v := .tuple #[.string ⟨#[]⟩, .string ⟨#[]⟩, .nilIface]) (by simp [results, Tryf.results14, go_sem]) rfl ⟨rfl, Below.refl _ _⟩
    · go_enter Tryf.func14, Tryf.ntmps14
      go_wp2
      exact bodyPost_ret (v := .tuple #[.string ⟨#[]⟩, .string s', .nilIface]) (by simp [results, Tryf.results14, go_sem]) rfl ⟨rfl, Below.refl _ _⟩
    · go_enter Tryf.func14, Tryf.ntmps14
      go_wp2_with fail
      refine (errorf2 F kVS ⟨#[]⟩ w.heap.size (w.alloc (.cells #[.iface 9 (.string kVS), .iface 9 (.string ⟨#[]⟩)] 20)) hF (by simp) (by simp)).mono ?_
      rintro e w1 ⟨⟨p, rfl⟩, hb⟩
      have HB : Hid (Below w.heap.size w w1) := ((Below.refl _ w).alloc (Nat.le_refl _) _).trans (hb.mono (by simp))
      clear hb
      go_wp2
      exact bodyPost_ret (v := .tuple #[.string ⟨#[]⟩, .string ⟨#[]⟩, .iface 56 (.pointer (some p))]) (by simp [results, Tryf.results14, go_sem]) rfl ⟨⟨p, rfl⟩, HB.out⟩
    · go_enter Tryf.func14, Tryf.ntmps14
      go_wp2_with fail
      refine (errorf2 F kVS ⟨#[]⟩ w.heap.size (w.alloc (.cells #[.iface 9 (.string kVS), .iface 9 (.string ⟨#[]⟩)] 20)) hF (by simp) (by simp)).mono ?_
      rintro e w1 ⟨⟨p, rfl⟩, hb⟩
      have HB : Hid (Below w.heap.size w w1) := ((Below.refl _ w).alloc (Nat.le_refl _) _).trans (hb.mono (by simp))
      clear hb
      go_wp2
      exact bodyPost_ret (v := .tuple #[.string ⟨#[]⟩, .string ⟨#[]⟩, .iface 56 (.pointer (some p))]) (by simp [results, Tryf.results14, go_sem]) rfl ⟨⟨p, rfl⟩, HB.out⟩
  · rcases hv with rfl | ⟨s', rfl⟩ | rfl | ⟨a, n, c, rfl⟩
    · go_enter Tryf.func14, Tryf.ntmps14
      go_wp2
      exact bodyPost_ret (v := .tuple #[.string s, .string ⟨#[]⟩, .nilIface]) (by simp [results, Tryf.results14, go_sem]) rfl ⟨rfl, Below.refl _ _⟩
    · go_enter Tryf.func14, Tryf.ntmps14
      go_wp2
      exact bodyPost_ret (v := .tuple #[.string s, .string s', .nilIface]) (by simp [results, Tryf.results14, go_sem]) rfl ⟨rfl, Below.refl _ _⟩
    · go_enter Tryf.func14, Tryf.ntmps14
      go_wp2_with fail
      refine (errorf2 F kVS s w.heap.size (w.alloc (.cells #[.iface 9 (.string kVS), .iface 9 (.string s)] 20)) hF (by simp) (by simp)).mono ?_
      rintro e w1 ⟨⟨p, rfl⟩, hb⟩
      have HB : Hid (Below w.heap.size w w1) := ((Below.refl _ w).alloc (Nat.le_refl _) _).trans (hb.mono (by simp))
      clear hb
      go_wp2
      exact bodyPost_ret (v := .tuple #[.string ⟨#[]⟩, .string ⟨#[]⟩, .iface 56 (.pointer (some p))]) (by simp [results, Tryf.results14, go_sem]) rfl ⟨⟨p, rfl⟩, HB.out⟩
    · go_enter Tryf.func14, Tryf.ntmps14
      go_wp2_with fail
      refine (errorf2 F kVS s w.heap.size (w.alloc (.cells #[.iface 9 (.string kVS), .iface 9 (.string s)] 20)) hF (by simp) (by simp)).mono ?_
      rintro e w1 ⟨⟨p, rfl⟩, hb⟩
      have HB : Hid (Below w.heap.size w w1) := ((Below.refl _ w).alloc (Nat.le_refl _) _).trans (hb.mono (by simp))
      clear hb
      go_wp2
      exact bodyPost_ret (v := .tuple #[.string ⟨#[]⟩, .string ⟨#[]⟩, .iface 56 (.pointer (some p))]) (by simp [results, Tryf.results14, go_sem]) rfl ⟨⟨p, rfl⟩, HB.out⟩
  · go_enter Tryf.func14, Tryf.ntmps14
    go_wp2_with fail
    refine (errorf1 fmtB fmtBr F kVS w.heap.size (w.alloc (.cells #[.iface 9 (.string kVS)] 20)) hF (by simp)).mono ?_
    rintro e w1 ⟨⟨p, rfl⟩, hb⟩
    have HB : Hid (Below w.heap.size w w1) := ((Below.refl _ w).alloc (Nat.le_refl _) _).trans (hb.mono (by simp))
    clear hb
    go_wp2
    exact bodyPost_ret (v := .tuple #[.string ⟨#[]⟩, .string ⟨#[]⟩, .iface 56 (.pointer (some p))]) (by simp [results, Tryf.results14, go_sem]) rfl ⟨⟨p, rfl⟩, HB.out⟩
  · go_enter Tryf.func14, Tryf.ntmps14
    go_wp2_with fail
    refine (errorf1 fmtB fmtBr F kVS w.heap.size (w.alloc (.cells #[.iface 9 (.string kVS)] 20)) hF (by simp)).mono ?_
    rintro e w1 ⟨⟨p, rfl⟩, hb⟩
    have HB : Hid (Below w.heap.size w w1) := ((Below.refl _ w).alloc (Nat.le_refl _) _).trans (hb.mono (by simp))
    clear hb
    go_wp2
    exact bodyPost_ret (v := .tuple #[.string ⟨#[]⟩, .string ⟨#[]⟩, .iface 56 (.pointer (some p))]) (by simp [results, Tryf.results14, go_sem]) rfl ⟨⟨p, rfl⟩, HB.out⟩
end
end Go.Proofs.Qxb6613562aFmt
