/-
  '(*Pool).save' (function 8) BY ITS CONTRACT.
-/
import Derived.Test.Qxb6613560aBase
import Derived.Deep.RegionHeld3
import Derived.Deep.QuietTactic
import Derived.BigQuiet
import Derived.WalkSpells
namespace Go.Proofs.Qxb6613560a
open Go.RowKit

/-- The pool at block p: its books' 60 cells, its option's pointer, its undo's length, its count of open savepoints. -/
structure PoolAt (w : World) (p : Nat) (bk : List Value) (opt : Value) (n : Nat) (o : Int) : Prop where
  range : w.rangeAt p 21 bk
  len : bk.length = 60
  one : ∀ v ∈ bk, v.oneCell' = true
  copt : w.cell? ⟨p, 12, none⟩ = some opt
  cundo : ∃ a c, w.cell? ⟨p, 1447, none⟩ = some (.slice a n c)
  copen : w.cell? ⟨p, 1448, none⟩ = some (.int .i64 o)
  fopen : w.frozen? ⟨p, 1448, none⟩ = false

theorem cell_alloc {w : World} {a : Addr} {v : Value} (h : w.cell? a = some v) (ob : Obj) : (w.alloc ob).cell? a = some v := by
  rw [World.cell?_alloc_lt _ _ _ (World.block_lt_of_cell? w _ h)]; exact h

theorem books_of {W : World} {p : Nat} {bk : List Value} (h : W.rangeAt p 21 bk) (hl : bk.length = 60) : booksOf W p = bk ∧ booksIn W p = true := by
  have hc : ∀ j, j < 60 → ∃ v, bk[j]? = some v ∧ W.cell? ⟨p, 21 + j, none⟩ = some v := fun j hj => by
    have : bk[j]? = some bk[j] := by simp [hl, hj]
    exact ⟨_, this, h j _ this⟩
  refine ⟨?_, ?_⟩
  · apply List.ext_getElem?
    intro j
    by_cases hj : j < 60
    · obtain ⟨v, h1, h2⟩ := hc j hj
      simp [booksOf, hj, h1, h2]
    · rw [List.getElem?_eq_none (by rw [books_len]; omega), List.getElem?_eq_none (by omega)]
  · simp only [booksIn, List.all_eq_true]
    intro j hj
    obtain ⟨v, _, h2⟩ := hc j (by simpa using hj)
    simp [h2]

theorem books_alloc {W : World} {p : Nat} {bk : List Value} (h : booksOf W p = bk) (h' : booksIn W p = true) (ob : Obj) : booksOf (W.alloc ob) p = bk ∧ booksIn (W.alloc ob) p = true := by
  have := books_range h'
  rw [h] at this
  exact books_of (World.rangeAt_alloc this ob) (by rw [← h]; exact books_len _ _)
theorem books_drew (W : World) (p : Nat) : booksOf W.drew p = booksOf W p ∧ booksIn W.drew p = booksIn W p := ⟨rfl, rfl⟩

/-! ### THE LARGE OPERATIONS OF A REGION THAT DRAWS ITS ORDER, AS RULES AT THE WHOLE OPERATION -/
def rLoad (P : Program) (v : Value) (W : World) : Result Next := Sem.run P (do pure (.value (← Instr.loadAt 54 v))) W
def rAlloc (P : Program) (W : World) : Result Next := Sem.run P (do pure (.value (← Instr.alloc 73 true (.tuple #[])))) W
def rBuild (P : Program) (x y z : Value) (W : World) : Result Next := Sem.run P (do pure (.value (← Instr.build 73 #[(0, x), (2, y), (3, z)]))) W
def rStore (P : Program) (x y : Value) (W : World) : Result Next := Sem.run P (do Instr.storeAt 73 x y; pure .skip) W
theorem ex_load (ρ : Operand → Value) (dst : Option Tmp) (x : Operand) (ty : TypeId) (pos : String) (after : Array Edge) (guard : Option (Nat × Bool)) (W : World) :
    Sem.run Try.prog (execOp ρ { dst, op := .load 54 x, type := ty, pos, after, guard }) W = rLoad Try.prog (ρ x) W := rfl
theorem ex_alloc (ρ : Operand → Value) (dst : Option Tmp) (ty : TypeId) (pos : String) (after : Array Edge) (guard : Option (Nat × Bool)) (W : World) :
    Sem.run Try.prog (execOp ρ { dst, op := .alloc 73, type := ty, pos, after, guard }) W = rAlloc Try.prog W := rfl
theorem ex_build (ρ : Operand → Value) (dst : Option Tmp) (x y z : Operand) (ty : TypeId) (pos : String) (after : Array Edge) (guard : Option (Nat × Bool)) (W : World) :
    Sem.run Try.prog (execOp ρ { dst, op := .build 73 #[(0, x), (2, y), (3, z)], type := ty, pos, after, guard }) W = rBuild Try.prog (ρ x) (ρ y) (ρ z) W := by
  simp [execOp, rBuild]
theorem ex_store (ρ : Operand → Value) (dst : Option Tmp) (x y : Operand) (ty : TypeId) (pos : String) (after : Array Edge) (guard : Option (Nat × Bool)) (W : World) :
    Sem.run Try.prog (execOp ρ { dst, op := .store 73 x y, type := ty, pos, after, guard }) W = rStore Try.prog (ρ x) (ρ y) W := rfl
theorem rLoad_to (W : World) (p : Nat) (h : booksIn W p = true) : rLoad Try.prog (.pointer (some ⟨p, 21, none⟩)) W = .ok (.value (.agg (booksOf W p).toArray)) W := by
  unfold rLoad; rw [Sem.run_bind, ld54 W p h]; rfl
theorem rAlloc_to (W : World) : rAlloc Try.prog W = .ok (.value (.pointer (some ⟨W.heap.size, 0, none⟩))) (W.alloc (.cells zSave 73)) := by
  unfold rAlloc; rw [Sem.run_bind, al73 W]; rfl
theorem rBuild_to (W : World) (B : List Value) (n o : Int) (h : B.length = 60) : rBuild Try.prog (.agg B.toArray) (.int .i64 n) (.int .i64 o) W = .ok (.value (.agg (sv B zOpt (.int .i64 n) (.int .i64 o)).toArray)) W := by
  unfold rBuild; rw [Sem.run_bind, bd73 W B n o h]; rfl
theorem rStore_to (W : World) (b : Nat) (L : List Value) (hb : b = W.heap.size) (hl : L.length = 69) (h1 : (L.all fun v => v.oneCell') = true) :
    rStore Try.prog (.pointer (some ⟨b, 0, none⟩)) (.agg L.toArray) (W.alloc (.cells zSave 73)).drew = .ok .skip (W.alloc (.cells L.toArray 73)).drew := by
  unfold rStore; rw [Sem.run_bind, st73d W b L hb hl h1]; rfl
theorem rStore_to' (W : World) (b : Nat) (L : List Value) (hb : b = W.heap.size) (hl : L.length = 69) (h1 : (L.all fun v => v.oneCell') = true) :
    rStore Try.prog (.pointer (some ⟨b, 0, none⟩)) (.agg L.toArray) (W.alloc (.cells zSave 73)) = .ok .skip (W.alloc (.cells L.toArray 73)) := by
  subst hb; unfold rStore; rw [Sem.run_bind, st73 W L hl h1]; rfl

/-- The step of an operation whose run is known. -/
theorem wpList_by {ops : Array Oper} {rest : List Oper} {o : Oper} {a : Act} {w w' : World} {Q : Exit → Act → World → Prop} {v : Value} (hg : o.guard = none) (hr : Sem.run Try.prog (execOp a.eval o) w = .ok (.value v) w') (h : wpList Try.prog ops Q rest (a.put o.dst v) w') : wpList Try.prog ops Q (o :: rest) a w := by
  refine wpList_plain hg fun K hK => ?_
  unfold Oper.wp
  rw [hr]
  exact hK _ _ h
theorem wpList_by0 {ops : Array Oper} {rest : List Oper} {o : Oper} {a : Act} {w w' : World} {Q : Exit → Act → World → Prop} (hg : o.guard = none) (hr : Sem.run Try.prog (execOp a.eval o) w = .ok .skip w') (h : wpList Try.prog ops Q rest (a.put o.dst undef) w') : wpList Try.prog ops Q (o :: rest) a w := by
  refine wpList_plain hg fun K hK => ?_
  unfold Oper.wp
  rw [hr]
  exact hK _ _ h

/-- What a save leaves: every block that was there is as it was, but the pool's count of open savepoints. -/
structure Step (p : Nat) (o : Int) (w w' : World) : Prop where
  os : w'.os = w.os
  tape : w'.tape = w.tape
  output : w'.output = w.output
  size : w.heap.size ≤ w'.heap.size
  block : ∀ k, k < w.heap.size → w'.heap[k]? = (w.setCell ⟨p, 1448, none⟩ (.int .i64 o)).heap[k]?

theorem step_world (w : World) (p : Nat) (o : Int) (A B : Obj) (cs : Array Value) (_hp : p < w.heap.size) :
    Step p o w ((((w.setCell ⟨p, 1448, none⟩ (.int .i64 o)).alloc A).alloc B).drew.setRow w.heap.size cs) := by
  refine ⟨rfl, rfl, rfl, ?_, ?_⟩
  · simp; omega
  · intro k hk
    rw [setRow_other _ _ _ _ (by omega)]
    show (((w.setCell ⟨p, 1448, none⟩ (.int .i64 o)).alloc A).alloc B).heap[k]? = _
    rw [Below.heap_alloc _ _ _ (by simp; omega), Below.heap_alloc _ _ _ (by simp; omega)]

def rowOf (W : World) (b : Nat) : Array Value := match W.heap[b]? with | some (.cells c _ _) => c | _ => #[]
def rowIn (W : World) (b : Nat) : Bool := match W.heap[b]? with | some (.cells c _ fr) => c.size == 69 && fr.1 == 0 && fr.2 == 0 | _ => false
theorem row_of {W : World} {b : Nat} {c : Array Value} {t : TypeId} (h : W.heap[b]? = some (.cells c t (0, 0))) (hc : c.size = 69) : rowOf W b = c ∧ rowIn W b = true := by
  simp [rowOf, rowIn, h, hc]
theorem row_in {W : World} {b : Nat} (h : rowIn W b = true) : ∃ t, W.heap[b]? = some (.cells (rowOf W b) t (0, 0)) ∧ (rowOf W b).size = 69 := by
  unfold rowIn at h
  split at h
  · rename_i c t fr e
    simp only [Bool.and_eq_true, beq_iff_eq] at h
    obtain ⟨⟨h1, h2⟩, h3⟩ := h
    obtain ⟨f1, f2⟩ := fr
    simp only at h2 h3
    subst h2; subst h3
    exact ⟨t, by simp [rowOf, e], by simp [rowOf, e, h1]⟩
  · cases h
def rLoad73 (P : Program) (v : Value) (W : World) : Result Next := Sem.run P (do pure (.value (← Instr.loadAt 73 v))) W
theorem ex_load73 (ρ : Operand → Value) (dst : Option Tmp) (x : Operand) (ty : TypeId) (pos : String) (after : Array Edge) (guard : Option (Nat × Bool)) (W : World) :
    Sem.run Try.prog (execOp ρ { dst, op := .load 73 x, type := ty, pos, after, guard }) W = rLoad73 Try.prog (ρ x) W := rfl
theorem rLoad73_to (W : World) (b : Nat) (h : rowIn W b = true) : rLoad73 Try.prog (.pointer (some ⟨b, 0, none⟩)) W = .ok (.value (.agg (rowOf W b))) W := by
  obtain ⟨t, h1, h2⟩ := row_in h
  have e : (Instr.loadAt 73 (.pointer (some ⟨b, 0, none⟩))).run Try.prog W = .ok (.agg (rowOf W b)) W := by
    simp only [Instr.loadAt, Instr.sureAddr, Sem.run_bind, Sem.run_pure, Result.andThen_ok]
    exact run_loadVar_row W b t 73 _ (0, 0) _ h1 Try.underlying73 rfl (by rw [Try.s73, h2])
  unfold rLoad73; rw [Sem.run_bind, e]; rfl
theorem rStore_row (W : World) (b : Nat) (L : List Value) (h : rowIn W b = true) (hl : L.length = 69) (h1 : (L.all fun v => v.oneCell') = true) :
    rStore Try.prog (.pointer (some ⟨b, 0, none⟩)) (.agg L.toArray) W = .ok .skip (W.setRow b L.toArray) := by
  obtain ⟨t, e1, e2⟩ := row_in h
  have e : (Instr.storeAt 73 (.pointer (some ⟨b, 0, none⟩)) (.agg L.toArray)).run Try.prog W = .ok () (W.setRow b L.toArray) := by
    simp only [Instr.storeAt, Instr.sureAddr, Sem.run_bind, Sem.run_pure, Result.andThen_ok]
    exact run_storeVar_row W b t 73 _ L.toArray e1 (by rw [Try.s73]; simp [hl]) (by rw [e2]; simp [hl]) (by simpa using h1)
  unfold rStore; rw [Sem.run_bind, e]; rfl

/-! ### The option's seven cells -/
def optOf (W : World) (q : Nat) : List Value := (List.range 7).map fun j => (W.cell? ⟨q, 0 + j, none⟩).getD undef
def optIn (W : World) (q : Nat) : Bool := (List.range 7).all fun j => (W.cell? ⟨q, 0 + j, none⟩).isSome
theorem opt_of {W : World} {q : Nat} {O : List Value} (h : W.rangeAt q 0 O) (hl : O.length = 7) : optOf W q = O ∧ optIn W q = true := by
  have hc : ∀ j, j < 7 → ∃ v, O[j]? = some v ∧ W.cell? ⟨q, 0 + j, none⟩ = some v := fun j hj => by
    have : O[j]? = some O[j] := by simp [hl, hj]
    exact ⟨_, this, h j _ this⟩
  refine ⟨?_, ?_⟩
  · apply List.ext_getElem?
    intro j
    by_cases hj : j < 7
    · obtain ⟨v, h1, h2⟩ := hc j hj
      rw [Nat.zero_add] at h2
      simp [optOf, hj, h1, h2]
    · rw [List.getElem?_eq_none (by simp [optOf]; omega), List.getElem?_eq_none (by omega)]
  · simp only [optIn, List.all_eq_true]
    intro j hj
    obtain ⟨v, _, h2⟩ := hc j (by simpa using hj)
    simp only [h2, Option.isSome_some]
theorem opt_range {W : World} {q : Nat} (h : optIn W q = true) : W.rangeAt q 0 (optOf W q) := by
  intro j v hv
  have hj : j < 7 := by
    have := (List.getElem?_eq_some_iff.1 hv).1
    simpa [optOf] using this
  have h1 : (W.cell? ⟨q, 0 + j, none⟩).isSome = true := List.all_eq_true.1 h j (by simpa using hj)
  have h2 : (optOf W q)[j]? = some ((W.cell? ⟨q, 0 + j, none⟩).getD undef) := by simp [optOf, hj]
  rw [h2] at hv
  obtain ⟨u, hu⟩ := Option.isSome_iff_exists.1 h1
  rw [hu] at hv ⊢
  exact hv
def rLoad71 (P : Program) (v : Value) (W : World) : Result Next := Sem.run P (do pure (.value (← Instr.loadAt 71 v))) W
def rStore71 (P : Program) (x y : Value) (W : World) : Result Next := Sem.run P (do Instr.storeAt 71 x y; pure .skip) W
theorem ex_load71 (ρ : Operand → Value) (dst : Option Tmp) (x : Operand) (ty : TypeId) (pos : String) (after : Array Edge) (guard : Option (Nat × Bool)) (W : World) :
    Sem.run Try.prog (execOp ρ { dst, op := .load 71 x, type := ty, pos, after, guard }) W = rLoad71 Try.prog (ρ x) W := rfl
theorem ex_store71 (ρ : Operand → Value) (dst : Option Tmp) (x y : Operand) (ty : TypeId) (pos : String) (after : Array Edge) (guard : Option (Nat × Bool)) (W : World) :
    Sem.run Try.prog (execOp ρ { dst, op := .store 71 x y, type := ty, pos, after, guard }) W = rStore71 Try.prog (ρ x) (ρ y) W := rfl
theorem rLoad71_to (W : World) (q : Nat) (h : optIn W q = true) : rLoad71 Try.prog (.pointer (some ⟨q, 0, none⟩)) W = .ok (.value (.agg (optOf W q).toArray)) W := by
  unfold rLoad71
  rw [Sem.run_bind, run_loadAt_mid W q 0 71 _ _ (opt_range h) Try.underlying71 rfl (by rw [Try.s71]; simp [optOf])]
  rfl

theorem setCells_alloc (t : TypeId) : ∀ (vs : List Value) (i : Nat) (W : World) (c : Array Value), ∃ c', (W.alloc (.cells c t)).setCells W.heap.size i vs = W.alloc (.cells c' t) ∧ c'.size = c.size ∧
    ∀ k, c'[k]? = if i ≤ k ∧ k < i + vs.length ∧ k < c.size then vs[k - i]? else c[k]?
  | [], i, W, c => ⟨c, rfl, rfl, fun k => by rw [if_neg (by simp; omega)]⟩
  | v :: vs, i, W, c => by
    obtain ⟨c', h1, h2, h3⟩ := setCells_alloc t vs (i + 1) W (c.setIfInBounds i v)
    refine ⟨c', ?_, by rw [h2]; simp, fun k => ?_⟩
    · rw [World.setCells, World.setCell_alloc_at _ _ _ _ _ rfl]; exact h1
    · rw [h3 k]
      by_cases e : k = i
      · subst e
        rw [if_neg (by omega)]
        by_cases hk : k < c.size
        · rw [if_pos (by simp [hk])]; simp [hk]
        · rw [if_neg (by omega), Array.getElem?_eq_none (by simp; omega), Array.getElem?_eq_none (by omega)]
      · by_cases hk : i ≤ k ∧ k < i + (v :: vs).length ∧ k < c.size
        · rw [if_pos (by simp at hk; simp; omega), if_pos hk]
          have : k - i = (k - (i + 1)) + 1 := by omega
          rw [this, List.getElem?_cons_succ]
        · rw [if_neg (by simp at hk; simp; omega), if_neg hk]
          simp [Ne.symm e]

theorem rStore71_to (W : World) (b : Nat) (B O : List Value) (u o : Value) (hb : b = W.heap.size) (hB : B.length = 60) (hO : O.length = 7) (h1 : (O.all fun v => v.oneCell') = true) :
    rStore71 Try.prog (.pointer (some ⟨b, 60, none⟩)) (.agg O.toArray) (W.alloc (.cells (sv B zOpt u o).toArray 73)).drew = .ok .skip (W.alloc (.cells (sv B O u o).toArray 73)).drew := by
  subst hb
  have hz : zOpt.length = 7 := rfl
  have hsz : (sv B zOpt u o).toArray.size = 69 := by simp [sv_len hB hz]
  have hth : (W.alloc (.cells (sv B zOpt u o).toArray 73)).drew.there W.heap.size 60 O.toArray.size := by
    intro j hj
    have hh : (W.alloc (.cells (sv B zOpt u o).toArray 73)).drew.heap[W.heap.size]? = some (.cells (sv B zOpt u o).toArray 73 (0, 0)) := heap_alloc_new W _
    rw [cell_of_row _ _ _ _ _ _ hh, frozen_of_row _ _ _ _ _ hh]
    simp at hj
    refine ⟨?_, rfl⟩
    rw [Array.getElem?_eq_getElem (by omega)]
    rfl
  have e : (Instr.storeAt 71 (.pointer (some ⟨W.heap.size, 60, none⟩)) (.agg O.toArray)).run Try.prog (W.alloc (.cells (sv B zOpt u o).toArray 73)).drew = .ok () ((W.alloc (.cells (sv B zOpt u o).toArray 73)).drew.setCells W.heap.size 60 O) :=
    run_storeAt_mid _ _ _ 71 O.toArray hth (by rw [Try.s71]; simp [hO]) (by simpa using h1)
  obtain ⟨c', e1, e2, e3⟩ := setCells_alloc 73 O 60 W.drew (sv B zOpt u o).toArray
  have e4 : (W.alloc (.cells (sv B zOpt u o).toArray 73)).drew.setCells W.heap.size 60 O = (W.alloc (.cells c' 73)).drew := e1
  have e5 : c' = (sv B O u o).toArray := by
    apply Array.ext_getElem?
    intro k
    rw [e3 k, hsz, hO]
    simp only [List.getElem?_toArray, sv]
    by_cases k1 : k < 60
    · rw [if_neg (by omega), List.getElem?_append_left (by omega), List.getElem?_append_left (by omega)]
    · by_cases k2 : k < 67
      · rw [if_pos (by omega), List.getElem?_append_right (by omega), hB, List.getElem?_append_left (by omega)]
      · rw [if_neg (by omega), List.getElem?_append_right (by omega), List.getElem?_append_right (by omega), hB, List.getElem?_append_right (by omega), List.getElem?_append_right (by omega), hz, hO, hB]
  unfold rStore71
  rw [Sem.run_bind, e, e4, e5]
  rfl

section
set_option maxRecDepth 100000 in
set_option maxHeartbeats 1000000 in
theorem save_nil (w : World) (p : Nat) (bk : List Value) (n : Nat) (o : Int) (ho : 0 ≤ o) (ho' : o < 9223372036854775807) (H : PoolAt w p bk (.pointer none) n o) :
    Calls Try.prog 8 #[.pointer (some ⟨p, 0, none⟩)] w fun e w' => e = .returned (.agg (sv bk zOpt (.int .i64 n) (.int .i64 o)).toArray) ∧ Step p (o + 1) w w' := by
  obtain ⟨hr, hl, h1, hco, ⟨ua, uc, hcu⟩, hop, hfo⟩ := H
  obtain ⟨hb1, hb2⟩ := books_of hr hl
  have hL := sv_len hl (show zOpt.length = 7 from rfl) (.int .i64 n) (.int .i64 o)
  have h1L := sv_one (O := zOpt) h1 (by decide) (u := .int .i64 n) (o := .int .i64 o) rfl rfl
  clear hr h1
  have SA : Hid (∀ a : Obj, booksOf (w.alloc a).drew p = bk ∧ booksIn (w.alloc a).drew p = true ∧ (w.alloc a).drew.cell? ⟨p, 1447, none⟩ = some (.slice ua n uc) ∧ (w.alloc a).drew.cell? ⟨p, 1448, none⟩ = some (.int .i64 o)) :=
    fun a => ⟨(books_alloc hb1 hb2 a).1, (books_alloc hb1 hb2 a).2, cell_alloc hcu a, cell_alloc hop a⟩
  have SB : Hid (∀ a b : Obj, booksOf ((w.alloc a).alloc b).drew p = bk ∧ booksIn ((w.alloc a).alloc b).drew p = true ∧ ((w.alloc a).alloc b).drew.cell? ⟨p, 1447, none⟩ = some (.slice ua n uc) ∧ ((w.alloc a).alloc b).drew.cell? ⟨p, 1448, none⟩ = some (.int .i64 o)) :=
    fun a b => ⟨(books_alloc (SA.out a).1 (SA.out a).2.1 b).1, (books_alloc (SA.out a).1 (SA.out a).2.1 b).2, cell_alloc (SA.out a).2.2.1 b, cell_alloc (SA.out a).2.2.2 b⟩
  have hp := World.block_lt_of_cell? w _ hop
  simp only at hp
  go_enter Try.func8, Try.ntmps8
  go_wp2_with (refine wpList_by (o := { dst := some 2, op := .alloc 73, type := _, pos := _, after := _, guard := _ }) rfl ((ex_alloc _ _ _ _ _ _ _).trans (rAlloc_to _)) ?_)
  refine wp_region_noPanic ?_
  refine wp_region_held_drew (S := (fun w' => booksOf w' p = bk ∧ booksIn w' p = true ∧ w'.cell? ⟨p, 1447, none⟩ = some (.slice ua n uc) ∧ w'.cell? ⟨p, 1448, none⟩ = some (.int .i64 o))) (by kernel_rfl) (SA.out _) (fun hHeld => ?_)
  refine wpAnyH_take (i := 0) (oi := { dst := some 4, op := .move (.tmp 0), type := _, pos := _, after := _, guard := _ }) (v := .pointer (some ⟨p, 0, none⟩)) rfl (by kernel_rfl) (by kernel_rfl) (by kernel_rfl) (fun _ _ _ h => h) (Or.inl ⟨by rfl, fun W hSw => by obtain ⟨_, _, _, _⟩ := hSw; go_simp⟩) hHeld ?_
  simp only [Act.put, List.setIfInBounds_toArray, List.set_cons_zero, List.set_cons_succ]
  refine wpAnyH_take (i := 1) (oi := { dst := some 5, op := .nilCheck (.tmp 4), type := _, pos := _, after := _, guard := _ }) (v := .pointer (some ⟨p, 0, none⟩)) rfl (by kernel_rfl) (by kernel_rfl) (by kernel_rfl) (fun _ _ _ h => h) (Or.inl ⟨by rfl, fun W hSw => by obtain ⟨_, _, _, _⟩ := hSw; go_simp⟩) hHeld ?_
  simp only [Act.put, List.setIfInBounds_toArray, List.set_cons_zero, List.set_cons_succ]
  refine wpAnyH_take (i := 2) (oi := { dst := some 6, op := .fieldAddr 68 (.tmp 5) 3, type := _, pos := _, after := _, guard := _ }) (v := .pointer (some ⟨p, 21, none⟩)) rfl (by kernel_rfl) (by kernel_rfl) (by kernel_rfl) (fun _ _ _ h => h) (Or.inl ⟨by rfl, fun W hSw => by obtain ⟨_, _, _, _⟩ := hSw; go_simp⟩) hHeld ?_
  simp only [Act.put, List.setIfInBounds_toArray, List.set_cons_zero, List.set_cons_succ]
  refine wpAnyH_take (i := 3) (oi := { dst := some 7, op := .load 54 (.tmp 6), type := _, pos := _, after := _, guard := _ }) (v := .agg bk.toArray) rfl (by kernel_rfl) (by kernel_rfl) (by kernel_rfl) (fun _ _ _ h => h) (Or.inl ⟨by rfl, fun W hSw => (ex_load _ _ _ _ _ _ _ W).trans ((rLoad_to W p hSw.2.1).trans (by rw [hSw.1]))⟩) hHeld ?_
  simp only [Act.put, List.setIfInBounds_toArray, List.set_cons_zero, List.set_cons_succ]
  refine wpAnyH_take (i := 4) (oi := { dst := some 8, op := .move (.tmp 0), type := _, pos := _, after := _, guard := _ }) (v := .pointer (some ⟨p, 0, none⟩)) rfl (by kernel_rfl) (by kernel_rfl) (by kernel_rfl) (fun _ _ _ h => h) (Or.inl ⟨by rfl, fun W hSw => by obtain ⟨_, _, _, _⟩ := hSw; go_simp⟩) hHeld ?_
  simp only [Act.put, List.setIfInBounds_toArray, List.set_cons_zero, List.set_cons_succ]
  refine wpAnyH_take (i := 5) (oi := { dst := some 9, op := .nilCheck (.tmp 8), type := _, pos := _, after := _, guard := _ }) (v := .pointer (some ⟨p, 0, none⟩)) rfl (by kernel_rfl) (by kernel_rfl) (by kernel_rfl) (fun _ _ _ h => h) (Or.inl ⟨by rfl, fun W hSw => by obtain ⟨_, _, _, _⟩ := hSw; go_simp⟩) hHeld ?_
  simp only [Act.put, List.setIfInBounds_toArray, List.set_cons_zero, List.set_cons_succ]
  refine wpAnyH_take (i := 6) (oi := { dst := some 10, op := .fieldAddr 68 (.tmp 9) 5, type := _, pos := _, after := _, guard := _ }) (v := .pointer (some ⟨p, 1447, none⟩)) rfl (by kernel_rfl) (by kernel_rfl) (by kernel_rfl) (fun _ _ _ h => h) (Or.inl ⟨by rfl, fun W hSw => by obtain ⟨_, _, _, _⟩ := hSw; go_simp⟩) hHeld ?_
  simp only [Act.put, List.setIfInBounds_toArray, List.set_cons_zero, List.set_cons_succ]
  refine wpAnyH_take (i := 7) (oi := { dst := some 11, op := .load 31 (.tmp 10), type := _, pos := _, after := _, guard := _ }) (v := .slice ua n uc) rfl (by kernel_rfl) (by kernel_rfl) (by kernel_rfl) (fun _ _ _ h => h) (Or.inl ⟨by rfl, fun W hSw => by obtain ⟨_, _, _, _⟩ := hSw; go_simp⟩) hHeld ?_
  simp only [Act.put, List.setIfInBounds_toArray, List.set_cons_zero, List.set_cons_succ]
  refine wpAnyH_take (i := 8) (oi := { dst := some 12, op := .call { callee := .builtin .len, args := #[.tmp 11], argTypes := #[31] }, type := _, pos := _, after := _, guard := _ }) (v := .int .i64 n) rfl (by kernel_rfl) (by kernel_rfl) (by kernel_rfl) (fun _ _ _ h => h) (Or.inl ⟨by rfl, fun W hSw => by obtain ⟨_, _, _, _⟩ := hSw; go_simp⟩) hHeld ?_
  simp only [Act.put, List.setIfInBounds_toArray, List.set_cons_zero, List.set_cons_succ]
  refine wpAnyH_take (i := 9) (oi := { dst := some 13, op := .move (.tmp 0), type := _, pos := _, after := _, guard := _ }) (v := .pointer (some ⟨p, 0, none⟩)) rfl (by kernel_rfl) (by kernel_rfl) (by kernel_rfl) (fun _ _ _ h => h) (Or.inl ⟨by rfl, fun W hSw => by obtain ⟨_, _, _, _⟩ := hSw; go_simp⟩) hHeld ?_
  simp only [Act.put, List.setIfInBounds_toArray, List.set_cons_zero, List.set_cons_succ]
  refine wpAnyH_take (i := 10) (oi := { dst := some 14, op := .nilCheck (.tmp 13), type := _, pos := _, after := _, guard := _ }) (v := .pointer (some ⟨p, 0, none⟩)) rfl (by kernel_rfl) (by kernel_rfl) (by kernel_rfl) (fun _ _ _ h => h) (Or.inl ⟨by rfl, fun W hSw => by obtain ⟨_, _, _, _⟩ := hSw; go_simp⟩) hHeld ?_
  simp only [Act.put, List.setIfInBounds_toArray, List.set_cons_zero, List.set_cons_succ]
  refine wpAnyH_take (i := 11) (oi := { dst := some 15, op := .fieldAddr 68 (.tmp 14) 6, type := _, pos := _, after := _, guard := _ }) (v := .pointer (some ⟨p, 1448, none⟩)) rfl (by kernel_rfl) (by kernel_rfl) (by kernel_rfl) (fun _ _ _ h => h) (Or.inl ⟨by rfl, fun W hSw => by obtain ⟨_, _, _, _⟩ := hSw; go_simp⟩) hHeld ?_
  simp only [Act.put, List.setIfInBounds_toArray, List.set_cons_zero, List.set_cons_succ]
  refine wpAnyH_take (i := 12) (oi := { dst := some 16, op := .load 3 (.tmp 15), type := _, pos := _, after := _, guard := _ }) (v := .int .i64 o) rfl (by kernel_rfl) (by kernel_rfl) (by kernel_rfl) (fun _ _ _ h => h) (Or.inl ⟨by rfl, fun W hSw => by obtain ⟨_, _, _, _⟩ := hSw; go_simp⟩) hHeld ?_
  simp only [Act.put, List.setIfInBounds_toArray, List.set_cons_zero, List.set_cons_succ]
  refine wpAnyH_take (i := 13) (oi := { dst := some 17, op := .build 73 #[(0, .tmp 7), (2, .tmp 12), (3, .tmp 16)], type := _, pos := _, after := _, guard := _ }) (v := .agg (sv bk zOpt (.int .i64 n) (.int .i64 o)).toArray) rfl (by kernel_rfl) (by kernel_rfl) (by kernel_rfl) (fun _ _ _ h => h) (Or.inl ⟨by rfl, fun W hSw => (ex_build _ _ _ _ _ _ _ _ _ W).trans (rBuild_to W bk n o hl)⟩) hHeld ?_
  simp only [Act.put, List.setIfInBounds_toArray, List.set_cons_zero, List.set_cons_succ]
  refine wpAnyH_ready (rs := [14]) (by kernel_rfl) (by simp) ?_
  refine AllReadyH.cons (o := { dst := some 3, op := .alloc 73, type := _, pos := _, after := _, guard := _ }) rfl (fun K hK => ?_) AllReadyH.nil
  rw [if_pos (by rfl)]
  unfold Oper.wp
  rw [ex_alloc, rAlloc_to, show (w.alloc (.cells zSave 73)).drew.heap.size = w.heap.size + 1 by simp]
  refine hK.out _ ((w.alloc (.cells zSave 73)).alloc (.cells zSave 73)).drew (SB.out _ _) (fun hHeld => ?_)
  clear hK K
  simp only [Act.put, List.setIfInBounds_toArray, List.set_cons_zero, List.set_cons_succ]
  refine wpAnyH_ready (rs := [15]) (by kernel_rfl) (by simp) ?_
  refine AllReadyH.cons (o := { dst := none, op := .store 73 (.tmp 3) (.tmp 17), type := _, pos := _, after := _, guard := _ }) rfl (fun K hK => ?_) AllReadyH.nil
  rw [if_pos (by rfl)]
  unfold Oper.wp
  refine (congrArg (Oper.upon _ _ _ _ _) ((ex_store _ _ _ _ _ _ _ _ _).trans (rStore_to (w.alloc (.cells zSave 73)) _ (sv bk zOpt (.int .i64 n) (.int .i64 o)) (by simp) hL h1L))).mpr ?_
  refine hK.out _ _ (SB.out _ _) (fun hHeld => ?_)
  clear hK K
  simp only [Act.put]
  refine wpAnyH_done (by kernel_rfl) ?_ _
  refine NoPanic.normal ?_
  clear SA SB hb1 hb2
  have hp1 : p < w.heap.size + 1 := by omega
  have hp2 : p < w.heap.size + 1 + 1 := by omega
  obtain ⟨SV, hSV⟩ : ∃ SV, SV = sv bk zOpt (.int .i64 n) (.int .i64 o) := ⟨_, rfl⟩
  rw [← hSV] at hL h1L ⊢
  have HSV : Hid (SV = sv bk zOpt (.int .i64 n) (.int .i64 o)) := hSV
  clear hSV
  have HG : Hid (∀ (v : Value), (((w.setCell ⟨p, 1448, none⟩ v).alloc (.cells zSave 73)).alloc (.cells SV.toArray 73)).drew.heap[w.heap.size + 1]? = some (.cells SV.toArray 73 (0, 0))) := fun v => by
    have := heap_alloc2_new (w.setCell ⟨p, 1448, none⟩ v) (.cells zSave 73) (.cells SV.toArray 73)
    rw [World.size_setCell] at this
    exact this
  have HG0 : Hid (∀ (v : Value), (((w.setCell ⟨p, 1448, none⟩ v).alloc (.cells zSave 73)).alloc (.cells SV.toArray 73)).drew.heap[w.heap.size]? = some (.cells zSave 73 (0, 0))) := fun v => by
    have := heap_alloc2_old (w.setCell ⟨p, 1448, none⟩ v) (.cells zSave 73) (.cells SV.toArray 73)
    rw [World.size_setCell] at this
    exact this
  have HR1 : ∀ v, rowOf (((w.setCell ⟨p, 1448, none⟩ v).alloc (.cells zSave 73)).alloc (.cells SV.toArray 73)).drew (w.heap.size + 1) = SV.toArray := fun v => (row_of (HG.out v) (by simp [hL])).1
  have HR2 : ∀ v, rowIn (((w.setCell ⟨p, 1448, none⟩ v).alloc (.cells zSave 73)).alloc (.cells SV.toArray 73)).drew (w.heap.size + 1) = true := fun v => (row_of (HG.out v) (by simp [hL])).2
  have HR3 : ∀ v, rowIn (((w.setCell ⟨p, 1448, none⟩ v).alloc (.cells zSave 73)).alloc (.cells SV.toArray 73)).drew w.heap.size = true := fun v => (row_of (HG0.out v) zSave_size).2
  go_wp2_with (first | (refine wpList_by (o := { dst := some 37, op := .load 73 (.tmp 3), type := _, pos := _, after := _, guard := _ }) (v := .agg SV.toArray) rfl ((ex_load73 _ _ _ _ _ _ _ _).trans ((rLoad73_to _ _ (HR2 _)).trans (by rw [HR1]))) ?_) | (refine wpList_by0 (o := { dst := none, op := .store 73 (.tmp 2) (.tmp 37), type := _, pos := _, after := _, guard := _ }) rfl ((ex_store _ _ _ _ _ _ _ _ _).trans (rStore_row _ _ SV (HR3 _) hL h1L)) ?_))
  refine bodyPost_ret (v := .agg SV.toArray) (results_cell_row (fn := Try.f8) rfl _ _ w.heap.size 73 SV.toArray (0, 0) _ rfl (setRow_heap _ _ zSave _ 73 (0, 0) (HG0.out _)) Try.underlying73 rfl (by rw [Try.s73]; simp [hL])) rfl ⟨by rw [HSV.out], ?_⟩
  exact step_world w p (o + 1) _ _ _ hp
set_option maxRecDepth 100000 in
set_option maxHeartbeats 1000000 in
theorem save_opt (w : World) (p : Nat) (bk : List Value) (q : Nat) (O : List Value) (n : Nat) (o : Int) (ho : 0 ≤ o) (ho' : o < 9223372036854775807) (H : PoolAt w p bk (.pointer (some ⟨q, 0, none⟩)) n o) (hq : w.rangeAt q 0 O) (hO : O.length = 7) (hO1 : ∀ v ∈ O, v.oneCell' = true) :
    Calls Try.prog 8 #[.pointer (some ⟨p, 0, none⟩)] w fun e w' => e = .returned (.agg (sv bk O (.int .i64 n) (.int .i64 o)).toArray) ∧ Step p (o + 1) w w' := by
  obtain ⟨hr, hl, h1, hco, ⟨ua, uc, hcu⟩, hop, hfo⟩ := H
  obtain ⟨hb1, hb2⟩ := books_of hr hl
  have hL := sv_len hl (show zOpt.length = 7 from rfl) (.int .i64 n) (.int .i64 o)
  have h1L := sv_one (O := zOpt) h1 (by decide) (u := .int .i64 n) (o := .int .i64 o) rfl rfl
  clear hr
  have SA : Hid (∀ a : Obj, booksOf (w.alloc a).drew p = bk ∧ booksIn (w.alloc a).drew p = true ∧ (w.alloc a).drew.cell? ⟨p, 1447, none⟩ = some (.slice ua n uc) ∧ (w.alloc a).drew.cell? ⟨p, 1448, none⟩ = some (.int .i64 o)) :=
    fun a => ⟨(books_alloc hb1 hb2 a).1, (books_alloc hb1 hb2 a).2, cell_alloc hcu a, cell_alloc hop a⟩
  have SB : Hid (∀ a b : Obj, booksOf ((w.alloc a).alloc b).drew p = bk ∧ booksIn ((w.alloc a).alloc b).drew p = true ∧ ((w.alloc a).alloc b).drew.cell? ⟨p, 1447, none⟩ = some (.slice ua n uc) ∧ ((w.alloc a).alloc b).drew.cell? ⟨p, 1448, none⟩ = some (.int .i64 o)) :=
    fun a b => ⟨(books_alloc (SA.out a).1 (SA.out a).2.1 b).1, (books_alloc (SA.out a).1 (SA.out a).2.1 b).2, cell_alloc (SA.out a).2.2.1 b, cell_alloc (SA.out a).2.2.2 b⟩
  have hp := World.block_lt_of_cell? w _ hop
  simp only at hp
  go_enter Try.func8, Try.ntmps8
  go_wp2_with (refine wpList_by (o := { dst := some 2, op := .alloc 73, type := _, pos := _, after := _, guard := _ }) rfl ((ex_alloc _ _ _ _ _ _ _).trans (rAlloc_to _)) ?_)
  refine wp_region_noPanic ?_
  refine wp_region_held_drew (S := (fun w' => booksOf w' p = bk ∧ booksIn w' p = true ∧ w'.cell? ⟨p, 1447, none⟩ = some (.slice ua n uc) ∧ w'.cell? ⟨p, 1448, none⟩ = some (.int .i64 o))) (by kernel_rfl) (SA.out _) (fun hHeld => ?_)
  refine wpAnyH_take (i := 0) (oi := { dst := some 4, op := .move (.tmp 0), type := _, pos := _, after := _, guard := _ }) (v := .pointer (some ⟨p, 0, none⟩)) rfl (by kernel_rfl) (by kernel_rfl) (by kernel_rfl) (fun _ _ _ h => h) (Or.inl ⟨by rfl, fun W hSw => by obtain ⟨_, _, _, _⟩ := hSw; go_simp⟩) hHeld ?_
  simp only [Act.put, List.setIfInBounds_toArray, List.set_cons_zero, List.set_cons_succ]
  refine wpAnyH_take (i := 1) (oi := { dst := some 5, op := .nilCheck (.tmp 4), type := _, pos := _, after := _, guard := _ }) (v := .pointer (some ⟨p, 0, none⟩)) rfl (by kernel_rfl) (by kernel_rfl) (by kernel_rfl) (fun _ _ _ h => h) (Or.inl ⟨by rfl, fun W hSw => by obtain ⟨_, _, _, _⟩ := hSw; go_simp⟩) hHeld ?_
  simp only [Act.put, List.setIfInBounds_toArray, List.set_cons_zero, List.set_cons_succ]
  refine wpAnyH_take (i := 2) (oi := { dst := some 6, op := .fieldAddr 68 (.tmp 5) 3, type := _, pos := _, after := _, guard := _ }) (v := .pointer (some ⟨p, 21, none⟩)) rfl (by kernel_rfl) (by kernel_rfl) (by kernel_rfl) (fun _ _ _ h => h) (Or.inl ⟨by rfl, fun W hSw => by obtain ⟨_, _, _, _⟩ := hSw; go_simp⟩) hHeld ?_
  simp only [Act.put, List.setIfInBounds_toArray, List.set_cons_zero, List.set_cons_succ]
  refine wpAnyH_take (i := 3) (oi := { dst := some 7, op := .load 54 (.tmp 6), type := _, pos := _, after := _, guard := _ }) (v := .agg bk.toArray) rfl (by kernel_rfl) (by kernel_rfl) (by kernel_rfl) (fun _ _ _ h => h) (Or.inl ⟨by rfl, fun W hSw => (ex_load _ _ _ _ _ _ _ W).trans ((rLoad_to W p hSw.2.1).trans (by rw [hSw.1]))⟩) hHeld ?_
  simp only [Act.put, List.setIfInBounds_toArray, List.set_cons_zero, List.set_cons_succ]
  refine wpAnyH_take (i := 4) (oi := { dst := some 8, op := .move (.tmp 0), type := _, pos := _, after := _, guard := _ }) (v := .pointer (some ⟨p, 0, none⟩)) rfl (by kernel_rfl) (by kernel_rfl) (by kernel_rfl) (fun _ _ _ h => h) (Or.inl ⟨by rfl, fun W hSw => by obtain ⟨_, _, _, _⟩ := hSw; go_simp⟩) hHeld ?_
  simp only [Act.put, List.setIfInBounds_toArray, List.set_cons_zero, List.set_cons_succ]
  refine wpAnyH_take (i := 5) (oi := { dst := some 9, op := .nilCheck (.tmp 8), type := _, pos := _, after := _, guard := _ }) (v := .pointer (some ⟨p, 0, none⟩)) rfl (by kernel_rfl) (by kernel_rfl) (by kernel_rfl) (fun _ _ _ h => h) (Or.inl ⟨by rfl, fun W hSw => by obtain ⟨_, _, _, _⟩ := hSw; go_simp⟩) hHeld ?_
  simp only [Act.put, List.setIfInBounds_toArray, List.set_cons_zero, List.set_cons_succ]
  refine wpAnyH_take (i := 6) (oi := { dst := some 10, op := .fieldAddr 68 (.tmp 9) 5, type := _, pos := _, after := _, guard := _ }) (v := .pointer (some ⟨p, 1447, none⟩)) rfl (by kernel_rfl) (by kernel_rfl) (by kernel_rfl) (fun _ _ _ h => h) (Or.inl ⟨by rfl, fun W hSw => by obtain ⟨_, _, _, _⟩ := hSw; go_simp⟩) hHeld ?_
  simp only [Act.put, List.setIfInBounds_toArray, List.set_cons_zero, List.set_cons_succ]
  refine wpAnyH_take (i := 7) (oi := { dst := some 11, op := .load 31 (.tmp 10), type := _, pos := _, after := _, guard := _ }) (v := .slice ua n uc) rfl (by kernel_rfl) (by kernel_rfl) (by kernel_rfl) (fun _ _ _ h => h) (Or.inl ⟨by rfl, fun W hSw => by obtain ⟨_, _, _, _⟩ := hSw; go_simp⟩) hHeld ?_
  simp only [Act.put, List.setIfInBounds_toArray, List.set_cons_zero, List.set_cons_succ]
  refine wpAnyH_take (i := 8) (oi := { dst := some 12, op := .call { callee := .builtin .len, args := #[.tmp 11], argTypes := #[31] }, type := _, pos := _, after := _, guard := _ }) (v := .int .i64 n) rfl (by kernel_rfl) (by kernel_rfl) (by kernel_rfl) (fun _ _ _ h => h) (Or.inl ⟨by rfl, fun W hSw => by obtain ⟨_, _, _, _⟩ := hSw; go_simp⟩) hHeld ?_
  simp only [Act.put, List.setIfInBounds_toArray, List.set_cons_zero, List.set_cons_succ]
  refine wpAnyH_take (i := 9) (oi := { dst := some 13, op := .move (.tmp 0), type := _, pos := _, after := _, guard := _ }) (v := .pointer (some ⟨p, 0, none⟩)) rfl (by kernel_rfl) (by kernel_rfl) (by kernel_rfl) (fun _ _ _ h => h) (Or.inl ⟨by rfl, fun W hSw => by obtain ⟨_, _, _, _⟩ := hSw; go_simp⟩) hHeld ?_
  simp only [Act.put, List.setIfInBounds_toArray, List.set_cons_zero, List.set_cons_succ]
  refine wpAnyH_take (i := 10) (oi := { dst := some 14, op := .nilCheck (.tmp 13), type := _, pos := _, after := _, guard := _ }) (v := .pointer (some ⟨p, 0, none⟩)) rfl (by kernel_rfl) (by kernel_rfl) (by kernel_rfl) (fun _ _ _ h => h) (Or.inl ⟨by rfl, fun W hSw => by obtain ⟨_, _, _, _⟩ := hSw; go_simp⟩) hHeld ?_
  simp only [Act.put, List.setIfInBounds_toArray, List.set_cons_zero, List.set_cons_succ]
  refine wpAnyH_take (i := 11) (oi := { dst := some 15, op := .fieldAddr 68 (.tmp 14) 6, type := _, pos := _, after := _, guard := _ }) (v := .pointer (some ⟨p, 1448, none⟩)) rfl (by kernel_rfl) (by kernel_rfl) (by kernel_rfl) (fun _ _ _ h => h) (Or.inl ⟨by rfl, fun W hSw => by obtain ⟨_, _, _, _⟩ := hSw; go_simp⟩) hHeld ?_
  simp only [Act.put, List.setIfInBounds_toArray, List.set_cons_zero, List.set_cons_succ]
  refine wpAnyH_take (i := 12) (oi := { dst := some 16, op := .load 3 (.tmp 15), type := _, pos := _, after := _, guard := _ }) (v := .int .i64 o) rfl (by kernel_rfl) (by kernel_rfl) (by kernel_rfl) (fun _ _ _ h => h) (Or.inl ⟨by rfl, fun W hSw => by obtain ⟨_, _, _, _⟩ := hSw; go_simp⟩) hHeld ?_
  simp only [Act.put, List.setIfInBounds_toArray, List.set_cons_zero, List.set_cons_succ]
  refine wpAnyH_take (i := 13) (oi := { dst := some 17, op := .build 73 #[(0, .tmp 7), (2, .tmp 12), (3, .tmp 16)], type := _, pos := _, after := _, guard := _ }) (v := .agg (sv bk zOpt (.int .i64 n) (.int .i64 o)).toArray) rfl (by kernel_rfl) (by kernel_rfl) (by kernel_rfl) (fun _ _ _ h => h) (Or.inl ⟨by rfl, fun W hSw => (ex_build _ _ _ _ _ _ _ _ _ W).trans (rBuild_to W bk n o hl)⟩) hHeld ?_
  simp only [Act.put, List.setIfInBounds_toArray, List.set_cons_zero, List.set_cons_succ]
  refine wpAnyH_ready (rs := [14]) (by kernel_rfl) (by simp) ?_
  refine AllReadyH.cons (o := { dst := some 3, op := .alloc 73, type := _, pos := _, after := _, guard := _ }) rfl (fun K hK => ?_) AllReadyH.nil
  rw [if_pos (by rfl)]
  unfold Oper.wp
  rw [ex_alloc, rAlloc_to, show (w.alloc (.cells zSave 73)).drew.heap.size = w.heap.size + 1 by simp]
  refine hK.out _ ((w.alloc (.cells zSave 73)).alloc (.cells zSave 73)).drew (SB.out _ _) (fun hHeld => ?_)
  clear hK K
  simp only [Act.put, List.setIfInBounds_toArray, List.set_cons_zero, List.set_cons_succ]
  refine wpAnyH_ready (rs := [15]) (by kernel_rfl) (by simp) ?_
  refine AllReadyH.cons (o := { dst := none, op := .store 73 (.tmp 3) (.tmp 17), type := _, pos := _, after := _, guard := _ }) rfl (fun K hK => ?_) AllReadyH.nil
  rw [if_pos (by rfl)]
  unfold Oper.wp
  refine (congrArg (Oper.upon _ _ _ _ _) ((ex_store _ _ _ _ _ _ _ _ _).trans (rStore_to (w.alloc (.cells zSave 73)) _ (sv bk zOpt (.int .i64 n) (.int .i64 o)) (by simp) hL h1L))).mpr ?_
  refine hK.out _ _ (SB.out _ _) (fun hHeld => ?_)
  clear hK K
  simp only [Act.put]
  refine wpAnyH_done (by kernel_rfl) ?_ _
  refine NoPanic.normal ?_
  clear SA SB hb1 hb2
  have hp1 : p < w.heap.size + 1 := by omega
  have hp2 : p < w.heap.size + 1 + 1 := by omega
  have hOa : (O.all fun v => v.oneCell') = true := List.all_eq_true.2 hO1
  have hL2 := sv_len hl hO (.int .i64 n) (.int .i64 o)
  have h1L2 := sv_one (O := O) h1 hO1 (u := .int .i64 n) (o := .int .i64 o) rfl rfl
  have HQ : Hid (((w.alloc (.cells zSave 73)).alloc (.cells (sv bk zOpt (.int .i64 n) (.int .i64 o)).toArray 73)).drew.rangeAt q 0 O) := World.rangeAt_alloc (World.rangeAt_alloc hq _) _
  obtain ⟨hq1, hq2⟩ := opt_of HQ.out hO
  clear hq h1 hO1 HQ
  have HG : Hid (∀ (v : Value), (((w.setCell ⟨p, 1448, none⟩ v).alloc (.cells zSave 73)).alloc (.cells (sv bk O (.int .i64 n) (.int .i64 o)).toArray 73)).drew.heap[w.heap.size + 1]? = some (.cells (sv bk O (.int .i64 n) (.int .i64 o)).toArray 73 (0, 0))) := fun v => by
    have := heap_alloc2_new (w.setCell ⟨p, 1448, none⟩ v) (.cells zSave 73) (.cells (sv bk O (.int .i64 n) (.int .i64 o)).toArray 73)
    rw [World.size_setCell] at this
    exact this
  have HG0 : Hid (∀ (v : Value), (((w.setCell ⟨p, 1448, none⟩ v).alloc (.cells zSave 73)).alloc (.cells (sv bk O (.int .i64 n) (.int .i64 o)).toArray 73)).drew.heap[w.heap.size]? = some (.cells zSave 73 (0, 0))) := fun v => by
    have := heap_alloc2_old (w.setCell ⟨p, 1448, none⟩ v) (.cells zSave 73) (.cells (sv bk O (.int .i64 n) (.int .i64 o)).toArray 73)
    rw [World.size_setCell] at this
    exact this
  have HR1 : ∀ v, rowOf (((w.setCell ⟨p, 1448, none⟩ v).alloc (.cells zSave 73)).alloc (.cells (sv bk O (.int .i64 n) (.int .i64 o)).toArray 73)).drew (w.heap.size + 1) = (sv bk O (.int .i64 n) (.int .i64 o)).toArray := fun v => (row_of (HG.out v) (by simp [hL2])).1
  have HR2 : ∀ v, rowIn (((w.setCell ⟨p, 1448, none⟩ v).alloc (.cells zSave 73)).alloc (.cells (sv bk O (.int .i64 n) (.int .i64 o)).toArray 73)).drew (w.heap.size + 1) = true := fun v => (row_of (HG.out v) (by simp [hL2])).2
  have HR3 : ∀ v, rowIn (((w.setCell ⟨p, 1448, none⟩ v).alloc (.cells zSave 73)).alloc (.cells (sv bk O (.int .i64 n) (.int .i64 o)).toArray 73)).drew w.heap.size = true := fun v => (row_of (HG0.out v) zSave_size).2
  go_wp2_with (first | (refine wpList_by (o := { dst := some 28, op := .load 71 (.tmp 27), type := _, pos := _, after := _, guard := _ }) (v := .agg O.toArray) rfl ((ex_load71 _ _ _ _ _ _ _ _).trans ((rLoad71_to _ q hq2).trans (by rw [hq1]))) ?_) | (refine wpList_by0 (o := { dst := none, op := .store 71 (.tmp 29) (.tmp 28), type := _, pos := _, after := _, guard := _ }) rfl ((ex_store71 _ _ _ _ _ _ _ _ _).trans (rStore71_to (w.alloc (.cells zSave 73)) _ bk O _ _ (by simp) hl hO hOa)) ?_) | (refine wpList_by (o := { dst := some 37, op := .load 73 (.tmp 3), type := _, pos := _, after := _, guard := _ }) (v := .agg (sv bk O (.int .i64 n) (.int .i64 o)).toArray) rfl ((ex_load73 _ _ _ _ _ _ _ _).trans ((rLoad73_to _ _ (HR2 _)).trans (by rw [HR1]))) ?_) | (refine wpList_by0 (o := { dst := none, op := .store 73 (.tmp 2) (.tmp 37), type := _, pos := _, after := _, guard := _ }) rfl ((ex_store _ _ _ _ _ _ _ _ _).trans (rStore_row _ _ (sv bk O (.int .i64 n) (.int .i64 o)) (HR3 _) hL2 h1L2)) ?_))
  refine bodyPost_ret (v := .agg (sv bk O (.int .i64 n) (.int .i64 o)).toArray) (results_cell_row (fn := Try.f8) rfl _ _ w.heap.size 73 (sv bk O (.int .i64 n) (.int .i64 o)).toArray (0, 0) _ rfl (setRow_heap _ _ zSave _ 73 (0, 0) (HG0.out _)) Try.underlying73 rfl (by rw [Try.s73]; simp [hL2])) rfl ⟨rfl, ?_⟩
  exact step_world w p (o + 1) _ _ _ hp
end
end Go.Proofs.Qxb6613560a
