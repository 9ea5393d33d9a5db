/-
  NewValueSet (8) BY ITS CONTRACT.
-/
import Derived.Test.Qxb6613562aFmtWithout
import Derived.Deep.RegionHeld3
namespace Go.Proofs.Qxb6613562aFmt
open Go.RowKit Go.Extern.Stop Go.Stop Go.Extern

abbrev kCOMP : ByteArray := ⟨#[99, 111, 109, 112, 111, 115, 101]⟩

/-- What NewValueSet leaves: an error alone; or a value set alone. -/
def VsPost (w : World) (f : ByteArray → Option Value) (r : Option (ByteArray × ByteArray)) (e : Ending) (w' : World) : Prop :=
  (match r with
   | none => ∃ p, e = .returned (.tuple #[.pointer none, .iface 56 (.pointer (some p))])
   | some (u, v) => ∃ p M g, e = .returned (.tuple #[.pointer (some ⟨p, 0, none⟩), .nilIface]) ∧ w'.cell? ⟨p, 0, none⟩ = some (.string u) ∧ w'.cell? ⟨p, 1, none⟩ = some (.string v) ∧ w'.cell? ⟨p, 2, none⟩ = some (.map (some M)) ∧ MapAt w' M g ∧ g kRT = f kRT) ∧
  Below w.heap.size w w'

section
variable (F : Interp) (w : World) (b : Nat) (f : ByteArray → Option Value)
set_option maxHeartbeats 1000000 in
theorem vs_err (HI : Calls Tryf.prog 14 #[.map (some b), .string kVS, .bool false] w (IdPost w none)) : Calls Tryf.prog 8 #[.map (some b)] w (VsPost w f none) := by
  go_enter Tryf.func8, Tryf.ntmps8
  go_wp2_with fail
  refine HI.mono ?_
  rintro e w1 ⟨⟨p, rfl⟩, hb⟩
  have HB : Hid (Below w.heap.size w w1) := hb
  clear hb
  go_wp2
  exact bodyPost_ret (v := .tuple #[.pointer none, .iface 56 (.pointer (some p))]) (by simp [results, Tryf.results8, go_sem]) rfl ⟨⟨p, rfl⟩, HB.out⟩

attribute [local go_sem] ta37_nil ta37_str ta37_bool ta37_slice
set_option maxHeartbeats 1000000 in
theorem vs_con (hF : F.answers w.tape) (u v : ByteArray) (h : MapAt w b f) (HI : Calls Tryf.prog 14 #[.map (some b), .string kVS, .bool false] w (IdPost w (some (u, v)))) (hc : (∃ s, (f kCON).getD .nilIface = .iface 9 (.string s)) ∨ (f kCON).getD .nilIface = .iface 4 (.bool true)) : Calls Tryf.prog 8 #[.map (some b)] w (VsPost w f none) := by
  have HM : ∀ w1, Below w.heap.size w w1 → (Instr.lookup 25 (.map (some b)) (.string kCON) false).run Tryf.prog w1 = .ok ((f kCON).getD .nilIface) w1 := fun w1 hb => run_look (h.below hb) Tryf.underlying25 Tryf.underlying9 zero20 kCON
  clear h
  rcases hc with ⟨s, hs⟩ | hs
  all_goals
    rw [hs] at HM
    clear hs
    go_enter Tryf.func8, Tryf.ntmps8
    go_wp2_with fail
    refine HI.mono ?_
    rintro e w1 ⟨rfl, hb⟩
    have hl := HM w1 hb
    have HB : Hid (Below w.heap.size w w1) := hb
    clear hb HM
    go_wp2_with fail
    refine (errorf1 fmtD fmtDr F u w1.heap.size (w1.alloc (.cells #[.iface 9 (.string u)] 20)) (by show F.answers w1.tape; rw [HB.out.tape]; exact hF) (by simp)).mono ?_
    rintro e w2 ⟨⟨p, rfl⟩, hb2⟩
    have HB2 : Hid (Below w.heap.size w w2) := HB.out.trans ((((Below.refl _ w1).alloc (Nat.le_refl _) _).trans (hb2.mono (by simp))).mono HB.out.size)
    clear hb2
    go_wp2
    exact bodyPost_ret (v := .tuple #[.pointer none, .iface 56 (.pointer (some p))]) (by simp [results, Tryf.results8, go_sem]) rfl ⟨⟨p, rfl⟩, HB2.out⟩

set_option maxHeartbeats 2000000 in
theorem vs_ok00 (u v : ByteArray) (h : MapAt w b f) (HI : Calls Tryf.prog 14 #[.map (some b), .string kVS, .bool false] w (IdPost w (some (u, v)))) (hc : (f kCON).getD .nilIface = .nilIface) (hcv : (f kCOMP).getD .nilIface = .nilIface) : Calls Tryf.prog 8 #[.map (some b)] w (VsPost w f (some (u, v))) := by
  have HM : ∀ w1, Below w.heap.size w w1 → (Instr.lookup 25 (.map (some b)) (.string kCON) false).run Tryf.prog w1 = .ok (.nilIface) w1 := fun w1 hb => by
    rw [← hc]; exact run_look (h.below hb) Tryf.underlying25 Tryf.underlying9 zero20 kCON
  have KP : Hid (∀ w', MapAt w' b f → (Instr.lookup 25 (.map (some b)) (.string kCOMP) false).run Tryf.prog w' = .ok (.nilIface) w') := fun w' h' => by
    rw [← hcv]; exact run_look h' Tryf.underlying25 Tryf.underlying9 zero20 kCOMP
  have H : Hid (MapAt w b f) := h
  clear h hcv hc
  go_enter Tryf.func8, Tryf.ntmps8
  go_wp2_with fail
  refine HI.mono ?_
  rintro e w1 ⟨rfl, hb⟩
  have hl := HM w1 hb
  have HB : Hid (Below w.heap.size w w1) := hb
  have M1 : Hid (MapAt w1 b f) := H.out.below hb
  have M2 : Hid (∀ o, MapAt (w1.alloc o).drew b f) := fun o => M1.out.below ((Below.refl _ _).alloc (Nat.le_refl _) o).drew
  clear hb HM
  go_wp2_with fail
  go_region_held3 (fun w' => (Instr.lookup 25 (.map (some b)) (.string kCOMP) false).run Tryf.prog w' = .ok (.nilIface) w') ((refine KP.out _ ?_; first | exact M1.out | exact M2.out _ | exact M3.out | exact M4.out _)) (first | (go_at_call 16; refine Calls.mono (without16 _ b f (M2.out _) w1.heap.size (by simp) (by simp) (by simp) (by simp)) ?_; rintro e w2 ⟨M, g, rfl, hm2, hg2, hb2⟩; have M3 : Hid (MapAt w2 b f) := MapAt.below (M2.out _) hb2; have M4 : Hid (∀ o, MapAt (w2.alloc o) b f) := fun o => MapAt.below M3.out ((Below.refl _ _).alloc (Nat.le_refl _) o); have HX : Hid (MapAt w2 M g ∧ g kRT = f kRT ∧ Below w.heap.size w w2) := ⟨hm2, hg2, HB.out.trans ((((Below.refl _ w1).alloc (Nat.le_refl _) _).drew.trans (hb2.mono (by simp))).mono HB.out.size)⟩; clear hm2 hg2 hb2))
  all_goals
    go_wp2
    exact bodyPost_ret (v := .tuple #[.pointer (some ⟨w2.heap.size, 0, none⟩), .nilIface]) (by simp [results, Tryf.results8, go_sem]) rfl ⟨⟨w2.heap.size, M, g, rfl, by simp, by simp, by simp, MapAt.below HX.out.1 ((Below.refl _ _).alloc (Nat.le_refl _) _), HX.out.2.1⟩, HX.out.2.2.alloc HX.out.2.2.size _⟩

set_option maxHeartbeats 2000000 in
theorem vs_ok01 (u v : ByteArray) (t : TypeId) (x : Value) (h : MapAt w b f) (HI : Calls Tryf.prog 14 #[.map (some b), .string kVS, .bool false] w (IdPost w (some (u, v)))) (hc : (f kCON).getD .nilIface = .nilIface) (hcv : (f kCOMP).getD .nilIface = .iface t x) : Calls Tryf.prog 8 #[.map (some b)] w (VsPost w f (some (u, v))) := by
  have HM : ∀ w1, Below w.heap.size w w1 → (Instr.lookup 25 (.map (some b)) (.string kCON) false).run Tryf.prog w1 = .ok (.nilIface) w1 := fun w1 hb => by
    rw [← hc]; exact run_look (h.below hb) Tryf.underlying25 Tryf.underlying9 zero20 kCON
  have KP : Hid (∀ w', MapAt w' b f → (Instr.lookup 25 (.map (some b)) (.string kCOMP) false).run Tryf.prog w' = .ok (.iface t x) w') := fun w' h' => by
    rw [← hcv]; exact run_look h' Tryf.underlying25 Tryf.underlying9 zero20 kCOMP
  have H : Hid (MapAt w b f) := h
  clear h hcv hc
  go_enter Tryf.func8, Tryf.ntmps8
  go_wp2_with fail
  refine HI.mono ?_
  rintro e w1 ⟨rfl, hb⟩
  have hl := HM w1 hb
  have HB : Hid (Below w.heap.size w w1) := hb
  have M1 : Hid (MapAt w1 b f) := H.out.below hb
  have M2 : Hid (∀ o, MapAt (w1.alloc o).drew b f) := fun o => M1.out.below ((Below.refl _ _).alloc (Nat.le_refl _) o).drew
  clear hb HM
  go_wp2_with fail
  go_region_held3 (fun w' => (Instr.lookup 25 (.map (some b)) (.string kCOMP) false).run Tryf.prog w' = .ok (.iface t x) w') ((refine KP.out _ ?_; first | exact M1.out | exact M2.out _ | exact M3.out | exact M4.out _)) (first | (go_at_call 16; refine Calls.mono (without16 _ b f (M2.out _) w1.heap.size (by simp) (by simp) (by simp) (by simp)) ?_; rintro e w2 ⟨M, g, rfl, hm2, hg2, hb2⟩; have M3 : Hid (MapAt w2 b f) := MapAt.below (M2.out _) hb2; have M4 : Hid (∀ o, MapAt (w2.alloc o) b f) := fun o => MapAt.below M3.out ((Below.refl _ _).alloc (Nat.le_refl _) o); have HX : Hid (MapAt w2 M g ∧ g kRT = f kRT ∧ Below w.heap.size w w2) := ⟨hm2, hg2, HB.out.trans ((((Below.refl _ w1).alloc (Nat.le_refl _) _).drew.trans (hb2.mono (by simp))).mono HB.out.size)⟩; clear hm2 hg2 hb2))
  all_goals
    go_wp2
    exact bodyPost_ret (v := .tuple #[.pointer (some ⟨w2.heap.size, 0, none⟩), .nilIface]) (by simp [results, Tryf.results8, go_sem]) rfl ⟨⟨w2.heap.size, M, g, rfl, by simp, by simp, by simp, MapAt.below HX.out.1 ((Below.refl _ _).alloc (Nat.le_refl _) _), HX.out.2.1⟩, HX.out.2.2.alloc HX.out.2.2.size _⟩

set_option maxHeartbeats 2000000 in
theorem vs_ok10 (u v : ByteArray) (a : Option Addr) (n c : Nat) (h : MapAt w b f) (HI : Calls Tryf.prog 14 #[.map (some b), .string kVS, .bool false] w (IdPost w (some (u, v)))) (hc : (f kCON).getD .nilIface = .iface 37 (.slice a n c)) (hcv : (f kCOMP).getD .nilIface = .nilIface) : Calls Tryf.prog 8 #[.map (some b)] w (VsPost w f (some (u, v))) := by
  have HM : ∀ w1, Below w.heap.size w w1 → (Instr.lookup 25 (.map (some b)) (.string kCON) false).run Tryf.prog w1 = .ok (.iface 37 (.slice a n c)) w1 := fun w1 hb => by
    rw [← hc]; exact run_look (h.below hb) Tryf.underlying25 Tryf.underlying9 zero20 kCON
  have KP : Hid (∀ w', MapAt w' b f → (Instr.lookup 25 (.map (some b)) (.string kCOMP) false).run Tryf.prog w' = .ok (.nilIface) w') := fun w' h' => by
    rw [← hcv]; exact run_look h' Tryf.underlying25 Tryf.underlying9 zero20 kCOMP
  have H : Hid (MapAt w b f) := h
  clear h hcv hc
  go_enter Tryf.func8, Tryf.ntmps8
  go_wp2_with fail
  refine HI.mono ?_
  rintro e w1 ⟨rfl, hb⟩
  have hl := HM w1 hb
  have HB : Hid (Below w.heap.size w w1) := hb
  have M1 : Hid (MapAt w1 b f) := H.out.below hb
  have M2 : Hid (∀ o, MapAt (w1.alloc o).drew b f) := fun o => M1.out.below ((Below.refl _ _).alloc (Nat.le_refl _) o).drew
  clear hb HM
  go_wp2_with fail
  go_region_held3 (fun w' => (Instr.lookup 25 (.map (some b)) (.string kCOMP) false).run Tryf.prog w' = .ok (.nilIface) w') ((refine KP.out _ ?_; first | exact M1.out | exact M2.out _ | exact M3.out | exact M4.out _)) (first | (go_at_call 16; refine Calls.mono (without16 _ b f (M2.out _) w1.heap.size (by simp) (by simp) (by simp) (by simp)) ?_; rintro e w2 ⟨M, g, rfl, hm2, hg2, hb2⟩; have M3 : Hid (MapAt w2 b f) := MapAt.below (M2.out _) hb2; have M4 : Hid (∀ o, MapAt (w2.alloc o) b f) := fun o => MapAt.below M3.out ((Below.refl _ _).alloc (Nat.le_refl _) o); have HX : Hid (MapAt w2 M g ∧ g kRT = f kRT ∧ Below w.heap.size w w2) := ⟨hm2, hg2, HB.out.trans ((((Below.refl _ w1).alloc (Nat.le_refl _) _).drew.trans (hb2.mono (by simp))).mono HB.out.size)⟩; clear hm2 hg2 hb2))
  all_goals
    go_wp2
    exact bodyPost_ret (v := .tuple #[.pointer (some ⟨w2.heap.size, 0, none⟩), .nilIface]) (by simp [results, Tryf.results8, go_sem]) rfl ⟨⟨w2.heap.size, M, g, rfl, by simp, by simp, by simp, MapAt.below HX.out.1 ((Below.refl _ _).alloc (Nat.le_refl _) _), HX.out.2.1⟩, HX.out.2.2.alloc HX.out.2.2.size _⟩

set_option maxHeartbeats 2000000 in
theorem vs_ok11 (u v : ByteArray) (a : Option Addr) (n c : Nat) (t : TypeId) (x : Value) (h : MapAt w b f) (HI : Calls Tryf.prog 14 #[.map (some b), .string kVS, .bool false] w (IdPost w (some (u, v)))) (hc : (f kCON).getD .nilIface = .iface 37 (.slice a n c)) (hcv : (f kCOMP).getD .nilIface = .iface t x) : Calls Tryf.prog 8 #[.map (some b)] w (VsPost w f (some (u, v))) := by
  have HM : ∀ w1, Below w.heap.size w w1 → (Instr.lookup 25 (.map (some b)) (.string kCON) false).run Tryf.prog w1 = .ok (.iface 37 (.slice a n c)) w1 := fun w1 hb => by
    rw [← hc]; exact run_look (h.below hb) Tryf.underlying25 Tryf.underlying9 zero20 kCON
  have KP : Hid (∀ w', MapAt w' b f → (Instr.lookup 25 (.map (some b)) (.string kCOMP) false).run Tryf.prog w' = .ok (.iface t x) w') := fun w' h' => by
    rw [← hcv]; exact run_look h' Tryf.underlying25 Tryf.underlying9 zero20 kCOMP
  have H : Hid (MapAt w b f) := h
  clear h hcv hc
  go_enter Tryf.func8, Tryf.ntmps8
  go_wp2_with fail
  refine HI.mono ?_
  rintro e w1 ⟨rfl, hb⟩
  have hl := HM w1 hb
  have HB : Hid (Below w.heap.size w w1) := hb
  have M1 : Hid (MapAt w1 b f) := H.out.below hb
  have M2 : Hid (∀ o, MapAt (w1.alloc o).drew b f) := fun o => M1.out.below ((Below.refl _ _).alloc (Nat.le_refl _) o).drew
  clear hb HM
  go_wp2_with fail
  go_region_held3 (fun w' => (Instr.lookup 25 (.map (some b)) (.string kCOMP) false).run Tryf.prog w' = .ok (.iface t x) w') ((refine KP.out _ ?_; first | exact M1.out | exact M2.out _ | exact M3.out | exact M4.out _)) (first | (go_at_call 16; refine Calls.mono (without16 _ b f (M2.out _) w1.heap.size (by simp) (by simp) (by simp) (by simp)) ?_; rintro e w2 ⟨M, g, rfl, hm2, hg2, hb2⟩; have M3 : Hid (MapAt w2 b f) := MapAt.below (M2.out _) hb2; have M4 : Hid (∀ o, MapAt (w2.alloc o) b f) := fun o => MapAt.below M3.out ((Below.refl _ _).alloc (Nat.le_refl _) o); have HX : Hid (MapAt w2 M g ∧ g kRT = f kRT ∧ Below w.heap.size w w2) := ⟨hm2, hg2, HB.out.trans ((((Below.refl _ w1).alloc (Nat.le_refl _) _).drew.trans (hb2.mono (by simp))).mono HB.out.size)⟩; clear hm2 hg2 hb2))
  all_goals
    go_wp2
    exact bodyPost_ret (v := .tuple #[.pointer (some ⟨w2.heap.size, 0, none⟩), .nilIface]) (by simp [results, Tryf.results8, go_sem]) rfl ⟨⟨w2.heap.size, M, g, rfl, by simp, by simp, by simp, MapAt.below HX.out.1 ((Below.refl _ _).alloc (Nat.le_refl _) _), HX.out.2.1⟩, HX.out.2.2.alloc HX.out.2.2.size _⟩

theorem vs_ok (u v : ByteArray) (h : MapAt w b f) (HI : Calls Tryf.prog 14 #[.map (some b), .string kVS, .bool false] w (IdPost w (some (u, v)))) (hc : (f kCON).getD .nilIface = .nilIface ∨ ∃ a n c, (f kCON).getD .nilIface = .iface 37 (.slice a n c)) (hcs : Shape ((f kCOMP).getD .nilIface)) : Calls Tryf.prog 8 #[.map (some b)] w (VsPost w f (some (u, v))) := by
  have hcs' : (f kCOMP).getD .nilIface = .nilIface ∨ ∃ t x, (f kCOMP).getD .nilIface = .iface t x := by
    rcases hcs with h1 | ⟨s, h1⟩ | h1 | ⟨a, n, c, h1⟩
    · exact Or.inl h1
    · exact Or.inr ⟨_, _, h1⟩
    · exact Or.inr ⟨_, _, h1⟩
    · exact Or.inr ⟨_, _, h1⟩
  rcases hcs' with h1 | ⟨t, x, h1⟩ <;> rcases hc with h2 | ⟨a, n, c, h2⟩
  · exact vs_ok00 w b f u v h HI h2 h1
  · exact vs_ok10 w b f u v a n c h HI h2 h1
  · exact vs_ok01 w b f u v t x h HI h2 h1
  · exact vs_ok11 w b f u v a n c t x h HI h2 h1

/-- What NewValueSet makes of a map: the members url, version and contained decide. -/
def restOf (f : ByteArray → Option Value) : Option (ByteArray × ByteArray) :=
  (txt ((f kURL).getD .nilIface)).bind fun u => (txt ((f kVER).getD .nilIface)).bind fun v =>
    match (f kCON).getD .nilIface with
    | .nilIface => some (u, v)
    | .iface 37 (.slice _ _ _) => some (u, v)
    | _ => none

theorem vs_any (hF : F.answers w.tape) (h : MapAt w b f) (hs : f kRT = some (.iface 9 (.string kVS))) (hsh : ∀ k, Shape ((f k).getD .nilIface)) : Calls Tryf.prog 8 #[.map (some b)] w (VsPost w f (restOf f)) := by
  have HI := id_any F w hF b f h hs (hsh kURL) (hsh kVER)
  unfold restOf
  cases hu : txt ((f kURL).getD .nilIface) with
  | none =>
    rw [hu] at HI
    exact vs_err w b f HI
  | some u =>
    rw [hu] at HI
    cases hv : txt ((f kVER).getD .nilIface) with
    | none =>
      rw [hv] at HI
      exact vs_err w b f HI
    | some v =>
      rw [hv] at HI
      rcases hsh kCON with h1 | ⟨s, h1⟩ | h1 | ⟨a, n, c, h1⟩
      · simp only [Option.bind_some, h1]
        exact vs_ok w b f u v h HI (Or.inl h1) (hsh kCOMP)
      · simp only [Option.bind_some, h1]
        exact vs_con F w b f hF u v h HI (Or.inl ⟨s, h1⟩)
      · simp only [Option.bind_some, h1]
        exact vs_con F w b f hF u v h HI (Or.inr h1)
      · simp only [Option.bind_some, h1]
        exact vs_ok w b f u v h HI (Or.inr ⟨a, n, c, h1⟩) (hsh kCOMP)
end
end Go.Proofs.Qxb6613562aFmt
