/-
  (*fields).flag (13), ZZfieldsFlag (9), ZZfieldsUsed (10), ZZfieldsFailed (11) BY THEIR CONTRACTS.
-/
import Derived.Test.Qxb6613560aFmtGet
namespace Go.Proofs.Qxb6613560aFmt
open Go.RowKit Go.Extern.Stop Go.Stop Go.Extern

/-- The first error: none, or one of fmt's make. -/
def ErAt (er : Value) (fl : Bool) : Prop := (fl = false ∧ er = .nilIface) ∨ (fl = true ∧ ∃ p, er = .iface 52 (.pointer (some p)))
/-- What flag answers; whether it finds fault; what it marks. -/
def flagB (ks : List ByteArray) (kd : List Int) (key : ByteArray) : Bool := match idxOf ks key with | some i => kd.getD i 0 == 116 | none => false
def failB (ks : List ByteArray) (kd : List Int) (key : ByteArray) : Bool := match idxOf ks key with | some i => kd.getD i 0 != 116 && kd.getD i 0 != 102 | none => false
def markB (ks : List ByteArray) (us : List Bool) (key : ByteArray) : List Bool := match idxOf ks key with | some i => us.set i true | none => us

/-- What a call on the fields at F (its marks at U) may turn of what was there. -/
structure Moved (F U : Nat) (w w' : World) : Prop where
  os : w'.os = w.os
  tape : w'.tape = w.tape
  output : w'.output = w.output
  size : w.heap.size ≤ w'.heap.size
  block : ∀ k, k < w.heap.size → k ≠ F → k ≠ U → w'.heap[k]? = w.heap[k]?

theorem Moved.refl (F U : Nat) (w : World) : Moved F U w w := ⟨rfl, rfl, rfl, Nat.le_refl _, fun _ _ _ _ => rfl⟩
theorem Moved.below {F U : Nat} {w w1 w2 : World} (h : Moved F U w w1) (hb : Below w1.heap.size w1 w2) : Moved F U w w2 :=
  ⟨hb.os.trans h.os, hb.tape.trans h.tape, hb.output.trans h.output, Nat.le_trans h.size hb.size, fun k h1 h2 h3 => (hb.block k (by have := h.size; omega)).trans (h.block k h1 h2 h3)⟩
theorem Moved.set {F U : Nat} {w w1 : World} (h : Moved F U w w1) (a : Addr) (ha : a.block = F ∨ a.block = U) (v : Value) : Moved F U w (w1.setCell a v) :=
  ⟨h.os, h.tape, h.output, by simp; exact h.size, fun k h1 h2 h3 => (Below.heap_setCell _ _ _ _ (by rcases ha with e | e <;> rw [e] <;> assumption)).trans (h.block k h1 h2 h3)⟩
theorem Moved.trans {F U : Nat} {w w1 w2 : World} (h : Moved F U w w1) (k : Moved F U w1 w2) : Moved F U w w2 :=
  ⟨k.os.trans h.os, k.tape.trans h.tape, k.output.trans h.output, Nat.le_trans h.size k.size, fun i h1 h2 h3 => (k.block i (by have := h.size; omega) h2 h3).trans (h.block i h1 h2 h3)⟩
theorem Moved.under {F U B : Nat} {w w1 : World} (h : Moved F U w w1) (hF : B ≤ F) (hU : B ≤ U) (hB : B ≤ w.heap.size) : Below B w w1 :=
  ⟨h.os, h.tape, h.output, h.size, fun k hk => h.block k (by omega) (by omega) (by omega)⟩

theorem KeysAt.same {w w' : World} {kv : Value} {ks : List ByteArray} (h : KeysAt w kv ks) (hs : w.heap.size ≤ w'.heap.size) (hc : ∀ K j s, K < w.heap.size → w.cell? ⟨K, j, none⟩ = some (.string s) → w'.cell? ⟨K, j, none⟩ = some (.string s)) : KeysAt w' kv ks := by
  rcases h with h | ⟨K, c, h1, h2, h3⟩
  · exact Or.inl h
  · exact Or.inr ⟨K, c, h1, by omega, fun j hj => hc K j _ h2 (h3 j hj)⟩

section
variable {w w' : World} {F V U : Nat} {kv : Value} {ks : List ByteArray} {kd : List Int} {us : List Bool} {er : Value}

theorem FieldsAt.below (h : FieldsAt w F V U kv ks kd us er) (hb : Below w.heap.size w w') : FieldsAt w' F V U kv ks kd us er :=
  ⟨(hb.block F (blk_lt h.blk)).trans h.blk, h.keys.same hb.size (fun K j _ hK hs => (hb.cell (p := ⟨K, j, none⟩) hK).trans hs),
    fun j hj => ⟨(hb.cell (p := ⟨V, j * 2, none⟩) h.vlt).trans (h.vals j hj).1, (hb.cell (p := ⟨V, j * 2 + 1, none⟩) h.vlt).trans (h.vals j hj).2⟩,
    (hb.block U (blk_lt h.used)).trans h.used, Nat.lt_of_lt_of_le h.vlt hb.size, h.vne, h.ulen⟩

theorem FieldsAt.fu (h : FieldsAt w F V U kv ks kd us er) : F ≠ U := fun e => by
  have h1 := h.blk
  rw [e, h.used] at h1
  simp at h1

theorem FieldsAt.setUsed (h : FieldsAt w F V U kv ks kd us er) (i : Nat) : FieldsAt (w.setCell ⟨U, i, none⟩ (.bool true)) F V U kv ks kd (us.set i true) er := by
  refine ⟨?_, ?_, ?_, ?_, by simpa using h.vlt, h.vne, by simpa using h.ulen⟩
  · rw [heap_setCell_other _ _ _ _ (by exact h.fu)]; exact h.blk
  · refine h.keys.same (by simp) (fun K j s hK hs => ?_)
    by_cases e : K = U
    · subst e
      rw [cell_of_row _ _ _ _ _ _ h.used] at hs
      simp at hs
    · rw [World.cell?_setCell_other _ _ _ _ (fun e' => e (by injection e' with e1; exact e1.symm))]; exact hs
  · intro j hj
    obtain ⟨h1, h2⟩ := h.vals j hj
    exact ⟨by rw [World.cell?_setCell_other _ _ _ _ (fun e => h.vne.1 (by injection e with e1; exact e1.symm))]; exact h1, by rw [World.cell?_setCell_other _ _ _ _ (fun e => h.vne.1 (by injection e with e1; exact e1.symm))]; exact h2⟩
  · rw [heap_setCell_same _ _ _ _ _ _ h.used]
    simp [List.map_set]

theorem FieldsAt.setErr (h : FieldsAt w F V U kv ks kd us er) {fl : Bool} (he : ErAt er fl) (er' : Value) : FieldsAt (w.setCell ⟨F, 3, none⟩ er') F V U kv ks kd us er' := by
  refine ⟨?_, ?_, ?_, ?_, by simpa using h.vlt, h.vne, h.ulen⟩
  · rw [heap_setCell_same _ _ _ _ _ _ h.blk]; rfl
  · refine h.keys.same (by simp) (fun K j s hK hs => ?_)
    by_cases e : (⟨F, 3, none⟩ : Addr) = ⟨K, j, none⟩
    · simp at e
      obtain ⟨rfl, rfl⟩ := e
      rw [cell_of_row _ _ _ _ _ _ h.blk] at hs
      simp at hs
      subst hs
      rcases he with ⟨_, e⟩ | ⟨_, _, e⟩ <;> cases e
    · rw [World.cell?_setCell_other _ _ _ _ e]; exact hs
  · intro j hj
    obtain ⟨h1, h2⟩ := h.vals j hj
    exact ⟨by rw [World.cell?_setCell_other _ _ _ _ (fun e => h.vne.2 (by injection e with e1; exact e1.symm))]; exact h1, by rw [World.cell?_setCell_other _ _ _ _ (fun e => h.vne.2 (by injection e with e1; exact e1.symm))]; exact h2⟩
  · rw [heap_setCell_other _ _ _ _ (by exact fun e => h.fu e.symm)]; exact h.used

theorem FieldsAt.cerr (h : FieldsAt w F V U kv ks kd us er) : w.cell? ⟨F, 3, none⟩ = some er := by rw [cell_of_row _ _ _ _ _ _ h.blk]; rfl
theorem FieldsAt.ferr (h : FieldsAt w F V U kv ks kd us er) : w.frozen? ⟨F, 3, none⟩ = false := frozen_of_row _ _ _ _ _ h.blk
end

/-- What flag leaves. -/
def FlagPost (w : World) (F V U : Nat) (kv : Value) (ks : List ByteArray) (kd : List Int) (us : List Bool) (fl : Bool) (key : ByteArray) (e : Ending) (w' : World) : Prop :=
  e = .returned (.bool (flagB ks kd key)) ∧ Moved F U w w' ∧ ∃ er', ErAt er' (fl || failB ks kd key) ∧ FieldsAt w' F V U kv ks kd (markB ks us key) er'

set_option maxHeartbeats 2000000 in
theorem flag_none (w : World) (F V U : Nat) (kv : Value) (ks : List ByteArray) (kd : List Int) (us : List Bool) (er : Value) (fl : Bool) (key : ByteArray) (hf : FieldsAt w F V U kv ks kd us er) (he : ErAt er fl) (hfit : Fit ks) (hkey : key.size ≤ 9223372036854775807) (hi : idxOf ks key = none) :
    Calls Tryf.prog 13 #[.pointer (some ⟨F, 0, none⟩), .string key] w (FlagPost w F V U kv ks kd us fl key) := by
  have HC := get_none w F V U kv ks kd us er key hf hfit hkey hi
  have K : Hid (flagB ks kd key = false ∧ failB ks kd key = false ∧ markB ks us key = us ∧ FieldsAt w F V U kv ks kd us er ∧ ErAt er fl) := ⟨by simp [flagB, hi], by simp [failB, hi], by simp [markB, hi], hf, he⟩
  clear hf he hi
  go_enter Tryf.func13, Tryf.ntmps13
  go_wp2_with (go_at_call 14; refine HC.mono ?_; rintro e w1 ⟨rfl, hb⟩)
  go_ret
  obtain ⟨k1, k2, k3, k4, k5⟩ := K.out
  refine ⟨by rw [k1]; rfl, ?_, er, by rw [k2, Bool.or_false]; exact k5, ?_⟩
  · exact (Moved.refl F U w).below (hb.alloc hb.size _)
  · rw [k3]; exact k4.below (hb.alloc hb.size _)

set_option maxHeartbeats 2000000 in
theorem flag_fine (w : World) (F V U : Nat) (kv : Value) (ks : List ByteArray) (kd : List Int) (us : List Bool) (er : Value) (fl : Bool) (key : ByteArray) (i : Nat) (hf : FieldsAt w F V U kv ks kd us er) (he : ErAt er fl) (hfit : Fit ks) (hkey : key.size ≤ 9223372036854775807) (hi : idxOf ks key = some i) (hk : kd.getD i 0 = 116 ∨ kd.getD i 0 = 102) :
    Calls Tryf.prog 13 #[.pointer (some ⟨F, 0, none⟩), .string key] w (FlagPost w F V U kv ks kd us fl key) := by
  have HC := get_some w F V U kv ks kd us er key i hf hfit hkey hi
  have K : Hid (flagB ks kd key = (kd.getD i 0 == 116) ∧ failB ks kd key = false ∧ markB ks us key = us.set i true ∧ FieldsAt w F V U kv ks kd us er ∧ ErAt er fl) := ⟨by simp only [flagB, hi], by simp only [failB, hi]; rcases hk with h | h <;> rw [h] <;> rfl, by simp only [markB, hi], hf, he⟩
  clear hf he hi
  obtain ⟨kk, hkk⟩ : ∃ kk, kk = kd.getD i 0 := ⟨_, rfl⟩
  rw [← hkk] at hk HC K
  clear hkk
  rcases hk with rfl | rfl
  all_goals
    go_enter Tryf.func13, Tryf.ntmps13
    go_wp2_with (go_at_call 14; refine HC.mono ?_; rintro e w1 ⟨rfl, hb⟩)
    go_ret
    obtain ⟨k1, k2, k3, k4, k5⟩ := K.out
    have hb' : Below (w.setCell ⟨U, i, none⟩ (.bool true)).heap.size (w.setCell ⟨U, i, none⟩ (.bool true)) w1 := by simpa using hb
    have hz : w.heap.size ≤ w1.heap.size := by have := hb.size; simpa using this
    refine ⟨by rw [k1]; rfl, ?_, er, by rw [k2, Bool.or_false]; exact k5, ?_⟩
    · exact ((Moved.refl F U w).set ⟨U, i, none⟩ (Or.inr rfl) (.bool true)).below (hb'.alloc (by simpa using hz) _)
    · rw [k3]; exact (k4.setUsed i).below (hb'.alloc (by simpa using hz) _)

set_option maxHeartbeats 2000000 in
theorem flag_bad (F0 : Interp) (w : World) (hF0 : F0.answers w.tape) (F V U : Nat) (kv : Value) (ks : List ByteArray) (kd : List Int) (us : List Bool) (er : Value) (fl : Bool) (key : ByteArray) (i : Nat) (hf : FieldsAt w F V U kv ks kd us er) (he : ErAt er fl) (hfit : Fit ks) (hkey : key.size ≤ 9223372036854775807) (hi : idxOf ks key = some i) (hk : (kd.getD i 0 == 116) = false) (hk' : (kd.getD i 0 == 102) = false) :
    Calls Tryf.prog 13 #[.pointer (some ⟨F, 0, none⟩), .string key] w (FlagPost w F V U kv ks kd us fl key) := by
  have HC := get_some w F V U kv ks kd us er key i hf hfit hkey hi
  have K : Hid (flagB ks kd key = false ∧ failB ks kd key = true ∧ markB ks us key = us.set i true ∧ FieldsAt w F V U kv ks kd us er) := ⟨by simp only [flagB, hi, hk], by simp only [failB, hi, bne, hk, hk']; rfl, by simp only [markB, hi], hf⟩
  have hF := blk_lt hf.blk
  clear hf hi
  obtain ⟨kk, hkk⟩ : ∃ kk, kk = kd.getD i 0 := ⟨_, rfl⟩
  rw [← hkk] at hk hk' HC
  clear hkk
  have hk1 : (kk != 116) = true := by simp only [bne, hk]; rfl
  have hk2 : (kk != 102) = true := by simp only [bne, hk']; rfl
  have MF : ∀ w1 : World, Below w.heap.size (w.setCell ⟨U, i, none⟩ (.bool true)) w1 → Hid (w.heap.size ≤ w1.heap.size ∧ w1.tape = w.tape ∧ ∀ A B : Obj, FieldsAt ((w1.alloc A).alloc B) F V U kv ks kd (us.set i true) er ∧ Moved F U w ((w1.alloc A).alloc B)) := fun w1 hb => by
    have hb' : Below (w.setCell ⟨U, i, none⟩ (.bool true)).heap.size (w.setCell ⟨U, i, none⟩ (.bool true)) w1 := by simpa using hb
    have hz : w.heap.size ≤ w1.heap.size := by have := hb.size; simpa using this
    refine ⟨hz, hb.tape, fun A B => ⟨?_, ?_⟩⟩
    · exact (K.out.2.2.2.setUsed i).below ((hb'.alloc (by simpa using hz) A).alloc (by simp; omega) B)
    · exact ((Moved.refl F U w).set ⟨U, i, none⟩ (Or.inr rfl) (.bool true)).below ((hb'.alloc (by simpa using hz) A).alloc (by simp; omega) B)
  rcases he with ⟨rfl, rfl⟩ | ⟨rfl, p0, rfl⟩
  · go_enter Tryf.func13, Tryf.ntmps13
    go_wp2_with (go_at_call 14; refine HC.mono ?_; rintro e w1 ⟨rfl, hb⟩)
    have M := MF w1 hb
    clear hb HC MF
    have hz := M.out.1
    refine (fail_set F0 _ F (w1.heap.size + 1) key (by show F0.answers w1.tape; rw [M.out.2.1]; exact hF0) (by simp) (M.out.2.2 _ _).1.cerr (M.out.2.2 _ _).1.ferr).mono ?_
    rintro e w2 ⟨rfl, p, hb2⟩
    have cv : w2.cell? ⟨w1.heap.size, 0, none⟩ = some (.int .u8 kk) := by
      rw [hb2.cell (p := ⟨w1.heap.size, 0, none⟩) (by simp; omega), World.cell?_setCell_other _ _ _ _ (fun e => by injection e with e1; omega)]
      simp
    have HB : Hid (Moved F U w w2 ∧ FieldsAt w2 F V U kv ks kd (us.set i true) (.iface 52 (.pointer (some p)))) := by
      have hb3 := hb2
      rw [← World.size_setCell (a := ⟨F, 3, none⟩) (v := .iface 52 (.pointer (some p)))] at hb3
      exact ⟨((M.out.2.2 _ _).2.set ⟨F, 3, none⟩ (Or.inl rfl) _).below hb3, ((M.out.2.2 _ _).1.setErr (Or.inl ⟨rfl, rfl⟩) _).below hb3⟩
    clear hb2 M
    go_wp2
    go_ret
    obtain ⟨k1, k2, k3, k4⟩ := K.out
    refine ⟨by rw [k1]; rfl, HB.out.1, _, ?_, by rw [k3]; exact HB.out.2⟩
    rw [k2]
    exact Or.inr ⟨rfl, p, rfl⟩
  · go_enter Tryf.func13, Tryf.ntmps13
    go_wp2_with (go_at_call 14; refine HC.mono ?_; rintro e w1 ⟨rfl, hb⟩)
    have M := MF w1 hb
    clear hb HC MF
    refine (fail_kept _ F (w1.heap.size + 1) 52 (.pointer (some p0)) (M.out.2.2 _ _).1.cerr).mono ?_
    rintro e w2 ⟨rfl, rfl⟩
    go_wp2
    go_ret
    obtain ⟨k1, k2, k3, k4⟩ := K.out
    refine ⟨by rw [k1]; rfl, (M.out.2.2 _ _).2, _, ?_, by rw [k3]; exact (M.out.2.2 _ _).1⟩
    rw [k2]
    exact Or.inr ⟨rfl, p0, rfl⟩

theorem flag_any (F0 : Interp) (w : World) (hF0 : F0.answers w.tape) (F V U : Nat) (kv : Value) (ks : List ByteArray) (kd : List Int) (us : List Bool) (er : Value) (fl : Bool) (key : ByteArray) (hf : FieldsAt w F V U kv ks kd us er) (he : ErAt er fl) (hfit : Fit ks) (hkey : key.size ≤ 9223372036854775807) :
    Calls Tryf.prog 13 #[.pointer (some ⟨F, 0, none⟩), .string key] w (FlagPost w F V U kv ks kd us fl key) := by
  cases hi : idxOf ks key with
  | none => exact flag_none w F V U kv ks kd us er fl key hf he hfit hkey hi
  | some i =>
    by_cases h1 : kd.getD i 0 = 116
    · exact flag_fine w F V U kv ks kd us er fl key i hf he hfit hkey hi (Or.inl h1)
    by_cases h2 : kd.getD i 0 = 102
    · exact flag_fine w F V U kv ks kd us er fl key i hf he hfit hkey hi (Or.inr h2)
    exact flag_bad F0 w hF0 F V U kv ks kd us er fl key i hf he hfit hkey hi (beq_eq_false_iff_ne.2 h1) (beq_eq_false_iff_ne.2 h2)

theorem zflag_any (F0 : Interp) (w : World) (hF0 : F0.answers w.tape) (F V U : Nat) (kv : Value) (ks : List ByteArray) (kd : List Int) (us : List Bool) (er : Value) (fl : Bool) (key : ByteArray) (hf : FieldsAt w F V U kv ks kd us er) (he : ErAt er fl) (hfit : Fit ks) (hkey : key.size ≤ 9223372036854775807) :
    Calls Tryf.prog 9 #[.pointer (some ⟨F, 0, none⟩), .string key] w (FlagPost w F V U kv ks kd us fl key) := by
  have HC := flag_any F0 w hF0 F V U kv ks kd us er fl key hf he hfit hkey
  clear hf he hfit hF0
  go_enter Tryf.func9, Tryf.ntmps9
  go_wp2_with (go_at_call 13; refine HC.mono ?_; rintro e w1 ⟨rfl, h⟩)
  go_ret
  exact ⟨rfl, h⟩

theorem used_any (w : World) (F V U : Nat) (kv : Value) (ks : List ByteArray) (kd : List Int) (us : List Bool) (er : Value) (hf : FieldsAt w F V U kv ks kd us er) :
    Calls Tryf.prog 10 #[.pointer (some ⟨F, 0, none⟩)] w fun e w' => e = .returned (.slice (some ⟨U, 0, none⟩) ks.length ks.length) ∧ w' = w := by
  have cF2 : w.cell? ⟨F, 2, none⟩ = some (.slice (some ⟨U, 0, none⟩) ks.length ks.length) := by rw [cell_of_row _ _ _ _ _ _ hf.blk]; rfl
  clear hf
  go_enter Tryf.func10, Tryf.ntmps10
  go_wp2
  go_ret
  exact ⟨rfl, rfl⟩

theorem failed_any (w : World) (F V U : Nat) (kv : Value) (ks : List ByteArray) (kd : List Int) (us : List Bool) (er : Value) (fl : Bool) (hf : FieldsAt w F V U kv ks kd us er) (he : ErAt er fl) :
    Calls Tryf.prog 11 #[.pointer (some ⟨F, 0, none⟩)] w fun e w' => e = .returned (.bool fl) ∧ w' = w := by
  have c := hf.cerr
  clear hf
  rcases he with ⟨rfl, rfl⟩ | ⟨rfl, p, rfl⟩
  all_goals
    go_enter Tryf.func11, Tryf.ntmps11
    go_wp2
    go_ret
    exact ⟨rfl, rfl⟩
end Go.Proofs.Qxb6613560aFmt
