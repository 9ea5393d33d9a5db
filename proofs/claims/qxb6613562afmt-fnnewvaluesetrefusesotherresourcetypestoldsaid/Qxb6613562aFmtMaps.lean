/-
  A MAP OF TEXT KEYS AS A FUNCTION: what a look-up, a store, a delete and maps.clone do to it (over any program whose type rows fit).
-/
import Derived.Test.Qxb6613562aFmtFacts
import Derived.Maps.Own
namespace Go.Proofs.Qxb6613562aFmt
open Go.RowKit Go.ChangeMaps

def isKey (k : ByteArray) : Value → Bool
  | .string s => decide (k = s)
  | _ => false
def Strs (es : List MapEntry) : Prop := ∀ e ∈ es, ∃ s, e.key = .string s
def lookS (es : List MapEntry) (k : ByteArray) : Option Value := (es.find? (fun e => isKey k e.key)).map (·.val)

theorem same_str (a b : ByteArray) : Instr.sameNow .string (.string a) (.string b) = some (decide (a = b)) := by
  show some (a == b) = _
  congr 1
  rw [Bool.eq_iff_iff, MapKept.bytes_beq, decide_eq_true_eq]

/-- The search that a map's operations make. -/
theorem find_str (k : ByteArray) : ∀ (es : List MapEntry) (j : Nat), Strs es →
    (Instr.findNow .string (.string k) es j = some none ∧ es.find? (fun e => isKey k e.key) = none) ∨
    ∃ pre e post, es = pre ++ e :: post ∧ e.key = .string k ∧ (∀ x ∈ pre, isKey k x.key = false) ∧ Instr.findNow .string (.string k) es j = some (some (j + pre.length, e.val))
  | [], j, _ => Or.inl ⟨rfl, rfl⟩
  | e :: es, j, h => by
    obtain ⟨s, hs⟩ := h e (by simp)
    have hr : Strs es := fun x hx => h x (by simp [hx])
    by_cases hk : k = s
    · subst hk
      refine Or.inr ⟨[], e, es, rfl, hs, by simp, ?_⟩
      simp [Instr.findNow, hs, same_str]
    · have e1 : Instr.findNow .string (.string k) (e :: es) j = Instr.findNow .string (.string k) es (j + 1) := by
        simp [Instr.findNow, hs, same_str, hk]
      have e2 : isKey k e.key = false := by simp [hs, isKey, hk]
      rcases find_str k es (j + 1) hr with ⟨h1, h2⟩ | ⟨pre, x, post, h1, h2, h3, h4⟩
      · exact Or.inl ⟨by rw [e1, h1], by simp [e2]; simpa using h2⟩
      · refine Or.inr ⟨e :: pre, x, post, by rw [h1]; rfl, h2, ?_, ?_⟩
        · intro y hy
          rcases List.mem_cons.1 hy with rfl | hy
          · exact e2
          · exact h3 y hy
        · rw [e1, h4]; simp; omega

theorem look_mid {pre post : List MapEntry} {e : MapEntry} {k : ByteArray} (hk : e.key = .string k) (hp : ∀ x ∈ pre, isKey k x.key = false) : lookS (pre ++ e :: post) k = some e.val := by
  have h1 : pre.find? (fun e => isKey k e.key) = none := List.find?_eq_none.2 (fun x hx => by simp [hp x hx])
  have h2 : isKey k e.key = true := by simp [hk, isKey]
  simp [lookS, List.find?_append, h1, h2]
theorem look_other {pre post : List MapEntry} {e : MapEntry} {k k' : ByteArray} (hk : e.key = .string k) (hne : k' ≠ k) : lookS (pre ++ e :: post) k' = lookS (pre ++ post) k' := by
  have h1 : isKey k' e.key = false := by simp [hk, isKey, hne]
  simp [lookS, List.find?_append, h1]
theorem modify_mid {α : Type} (f : α → α) (e : α) (post : List α) : ∀ pre : List α, (pre ++ e :: post).modify pre.length f = pre ++ f e :: post
  | [] => rfl
  | x :: pre => by simp [modify_mid f e post pre]
theorem erase_mid {α : Type} (e : α) (post : List α) : ∀ pre : List α, (pre ++ e :: post).eraseIdx pre.length = pre ++ post
  | [] => rfl
  | x :: pre => by simp [erase_mid e post pre]

/-- Block 'b' is a map that answers as 'f' does. -/
def MapAt (w : World) (b : Nat) (f : ByteArray → Option Value) : Prop := ∃ es clock, w.heap[b]? = some (.map es clock) ∧ Strs es.toList ∧ ∀ k, lookS es.toList k = f k
/-- The same with one key turned. -/
def upd (f : ByteArray → Option Value) (k : ByteArray) (v : Value) : ByteArray → Option Value := fun x => if x = k then some v else f x
theorem upd_same (f : ByteArray → Option Value) (k : ByteArray) (v : Value) : upd f k v k = some v := by simp [upd]
theorem upd_other (f : ByteArray → Option Value) (k : ByteArray) (v : Value) {x : ByteArray} (h : x ≠ k) : upd f k v x = f x := by simp [upd, h]

/-- No block but 'b' is turned. -/
structure Only (b : Nat) (w w' : World) : Prop where
  os : w'.os = w.os
  tape : w'.tape = w.tape
  output : w'.output = w.output
  size : w.heap.size ≤ w'.heap.size
  block : ∀ i, i < w.heap.size → i ≠ b → w'.heap[i]? = w.heap[i]?
theorem Only.below {b B : Nat} {w w' : World} (h : Only b w w') (hB : B ≤ b) (hs : B ≤ w.heap.size) : Below B w w' := ⟨h.os, h.tape, h.output, h.size, fun k hk => h.block k (by omega) (by omega)⟩
theorem Only.trans {b : Nat} {w w1 w2 : World} (h : Only b w w1) (k : Only b w1 w2) : Only b w w2 :=
  ⟨k.os.trans h.os, k.tape.trans h.tape, k.output.trans h.output, Nat.le_trans h.size k.size, fun i h1 h2 => (k.block i (Nat.lt_of_lt_of_le h1 h.size) h2).trans (h.block i h1 h2)⟩
theorem Only.refl (b : Nat) (w : World) : Only b w w := ⟨rfl, rfl, rfl, Nat.le_refl _, fun _ _ _ => rfl⟩
theorem Only.of_below {b : Nat} {w w' : World} (h : Below w.heap.size w w') : Only b w w' := ⟨h.os, h.tape, h.output, h.size, fun i h1 _ => h.block i h1⟩
theorem Only.cell {b : Nat} {w w' : World} (h : Only b w w') {a : Addr} {v : Value} (hc : w.cell? a = some v) (hb : a.block ≠ b) : w'.cell? a = some v := by
  rw [World.cell?_of_block (w := w) (h.block _ (World.block_lt_of_cell? w _ hc) hb)]; exact hc
theorem only_set {w : World} {b : Nat} {es : Array MapEntry} {clock : Nat} (_ : w.heap[b]? = some (.map es clock)) (o : Obj) : Only b w (setBlock w b o) :=
  ⟨rfl, rfl, rfl, by simp [setBlock], fun i _ hi => by simp only [setBlock]; rw [Array.getElem?_setIfInBounds_ne (Ne.symm hi)]⟩

theorem MapAt.lt {w : World} {b : Nat} {f : ByteArray → Option Value} (h : MapAt w b f) : b < w.heap.size := by
  obtain ⟨es, c, h1, _⟩ := h
  exact (Array.getElem?_eq_some_iff.1 h1).1
theorem MapAt.kept {w w' : World} {b : Nat} {f : ByteArray → Option Value} (h : MapAt w b f) (hw : w'.heap[b]? = w.heap[b]?) : MapAt w' b f := by
  obtain ⟨es, c, h1, h2⟩ := h
  exact ⟨es, c, hw.trans h1, h2⟩
theorem MapAt.below {w w' : World} {b : Nat} {f : ByteArray → Option Value} (h : MapAt w b f) (hb : Below w.heap.size w w') : MapAt w' b f := h.kept (hb.block b h.lt)
theorem MapAt.only {w w' : World} {b b' : Nat} {f : ByteArray → Option Value} (h : MapAt w b f) (hb : Only b' w w') (hne : b ≠ b') : MapAt w' b f := h.kept (hb.block b h.lt hne)

section
variable {P : Program} {w : World} {b : Nat} {f : ByteArray → Option Value} {t kt et : TypeId}
theorem run_look (h : MapAt w b f) (ht : P.underlying t = some (.map kt et)) (hk : P.underlying kt = some .string) (hz : ∀ w, (zeroValue et).run P w = .ok .nilIface w) (k : ByteArray) :
    (Instr.lookup t (.map (some b)) (.string k) false).run P w = .ok ((f k).getD .nilIface) w := by
  obtain ⟨es, c, h1, h2, h3⟩ := h
  have hc : (Instr.checkKey es.isEmpty 10000 kt (.string k)).run P w = .ok () w := MapKept.run_checkKey (k := .string k) hk (by simp [MapKept.IsKey]) es.isEmpty 9999
  rw [← h3 k]
  rcases find_str k es.toList 0 h2 with ⟨g1, g2⟩ | ⟨pre, e, post, g1, g2, g3, g4⟩
  · have : lookS es.toList k = none := by simp only [lookS, g2, Option.map_none]
    rw [this]
    simp [Instr.lookup, run_underlying ht, MapKept.run_getObj_map h1, hc, MapKept.run_findKey hk g1, hz, Result.andThen]
  · have : lookS es.toList k = some e.val := by rw [g1]; exact look_mid g2 g3
    rw [this]
    simp [Instr.lookup, run_underlying ht, MapKept.run_getObj_map h1, hc, MapKept.run_findKey hk g4, Result.andThen]

theorem run_put (h : MapAt w b f) (ht : P.underlying t = some (.map kt et)) (hk : P.underlying kt = some .string) (k : ByteArray) (v : Value) :
    ∃ w', (Instr.mapUpdate t (.map (some b)) (.string k) v).run P w = .ok () w' ∧ MapAt w' b (upd f k v) ∧ Only b w w' := by
  obtain ⟨es, c, h1, h2, h3⟩ := h
  have hc : (Instr.checkKey false 10000 kt (.string k)).run P w = .ok () w := MapKept.run_checkKey (k := .string k) hk (by simp [MapKept.IsKey]) false 9999
  rcases find_str k es.toList 0 h2 with ⟨g1, g2⟩ | ⟨pre, e, post, g1, g2, g3, g4⟩
  · refine ⟨setBlock w b (.map (es.push { key := .string k, val := v, born := c }) (c + 1)), ?_, ⟨_, _, heap_setBlock_same h1 _, ?_, ?_⟩, only_set h1 _⟩
    · simp [Instr.mapUpdate, run_underlying ht, MapKept.run_getObj_map h1, hc, MapKept.run_findKey hk g1, MapKept.run_setObj_map _ h1, Result.andThen, setBlock]
    · intro x hx
      simp at hx
      rcases hx with hx | rfl
      · exact h2 x (by simpa using hx)
      · exact ⟨k, rfl⟩
    · intro x
      by_cases hx : x = k
      · subst hx
        rw [upd_same, Array.toList_push]
        exact look_mid rfl (fun y hy => by simpa using (List.find?_eq_none.1 g2) y hy)
      · rw [upd_other _ _ _ hx, Array.toList_push, look_other (k := k) rfl hx, List.append_nil]
        exact h3 x
  · have hi : es[pre.length]? = some e := by rw [← Array.getElem?_toList, g1]; simp
    have hsb : (Instr.keyThatStays (.string k) (.string k)).run P w = .ok (.string k) w := MapKept.run_keyThatStays (d := .string) (by simp [MapKept.IsKey])
    refine ⟨setBlock w b (.map (es.modify pre.length fun e => { e with key := .string k, val := v }) c), ?_, ⟨_, _, heap_setBlock_same h1 _, ?_, ?_⟩, only_set h1 _⟩
    · simp [Instr.mapUpdate, run_underlying ht, MapKept.run_getObj_map h1, hc, MapKept.run_findKey hk g4, MapKept.run_setObj_map _ h1, Result.andThen, setBlock, hi, g2, hsb]
    · rw [Array.toList_modify, g1, modify_mid]
      intro x hx
      rcases List.mem_append.1 hx with hx | hx
      · exact h2 x (by rw [g1]; simp [hx])
      · rcases List.mem_cons.1 hx with rfl | hx
        · exact ⟨k, rfl⟩
        · exact h2 x (by rw [g1]; simp [hx])
    · intro x
      rw [Array.toList_modify, g1, modify_mid]
      by_cases hx : x = k
      · subst hx
        rw [upd_same]
        exact look_mid rfl g3
      · rw [upd_other _ _ _ hx, look_other (k := k) rfl hx, ← look_other g2 hx, ← g1]
        exact h3 x

theorem run_drop (h : MapAt w b f) (ht : P.underlying t = some (.map kt et)) (hk : P.underlying kt = some .string) (k : ByteArray) :
    ∃ w' f', (∀ ty, (Builtin.delete_ #[t, kt] ty #[.map (some b), .string k]).run P w = .ok (.tuple #[]) w') ∧ MapAt w' b f' ∧ (∀ x, x ≠ k → f' x = f x) ∧ Only b w w' := by
  obtain ⟨es, c, h1, h2, h3⟩ := h
  have hc : (Instr.checkKey es.isEmpty 10000 kt (.string k)).run P w = .ok () w := MapKept.run_checkKey (k := .string k) hk (by simp [MapKept.IsKey]) es.isEmpty 9999
  rcases find_str k es.toList 0 h2 with ⟨g1, g2⟩ | ⟨pre, e, post, g1, g2, g3, g4⟩
  · refine ⟨setBlock w b (.map es c), f, ?_, ⟨_, _, heap_setBlock_same h1 _, h2, h3⟩, fun _ _ => rfl, only_set h1 _⟩
    intro ty
    simp [Builtin.delete_, run_underlying ht, MapKept.run_getObj_map h1, hc, MapKept.run_findKey hk g1, MapKept.run_setObj_map _ h1, Result.andThen, setBlock]
  · refine ⟨setBlock w b (.map (es.eraseIdxIfInBounds pre.length) c), fun x => lookS (pre ++ post) x, ?_, ⟨_, _, heap_setBlock_same h1 _, ?_, ?_⟩, ?_, only_set h1 _⟩
    · intro ty
      simp [Builtin.delete_, run_underlying ht, MapKept.run_getObj_map h1, hc, MapKept.run_findKey hk g4, MapKept.run_setObj_map _ h1, Result.andThen, setBlock]
    · rw [Array.toList_eraseIdxIfInBounds, g1, erase_mid]
      intro x hx
      refine h2 x (by rw [g1]; rcases List.mem_append.1 hx with hx | hx <;> simp [hx])
    · intro x
      rw [Array.toList_eraseIdxIfInBounds, g1, erase_mid]
    · intro x hx
      show lookS (pre ++ post) x = f x
      rw [← look_other g2 hx, ← g1]
      exact h3 x

theorem run_clone (h : MapAt w b f) (t : TypeId) : ∃ es c, (Extern.MapsClone.clone #[.iface t (.map (some b))]).run P w = .ok (.iface t (.map (some w.heap.size))) (w.alloc (.map es c)) ∧ MapAt (w.alloc (.map es c)) w.heap.size f := by
  obtain ⟨es, c, h1, h2, h3⟩ := h
  refine ⟨es, c, ?_, ⟨es, c, heap_alloc_new _ _, h2, h3⟩⟩
  have e : Extern.MapsClone.clone #[.iface t (.map (some b))] = (getObj b >>= fun o => match o with
      | .map entries clock => (newObj (.map entries clock) >>= fun n => pure (.iface t (.map (some n))))
      | _ => stuck _) := rfl
  rw [e]
  simp [MapKept.run_getObj_map h1, Result.andThen]
end
end Go.Proofs.Qxb6613562aFmt
