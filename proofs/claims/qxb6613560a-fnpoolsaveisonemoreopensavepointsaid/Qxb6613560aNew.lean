/-
  'ZZnewPool' (function 4) BY ITS CONTRACT.
-/
import Derived.Test.Qxb6613560aZsave
namespace Go.Proofs.Qxb6613560a
open Go.RowKit

/-- The pool's cells as ZZnewPool's literal builds them. -/
def pool0 (P : Program) (o s : Value) : Array Value := (P.built 68 [(6, o), (5, s)]).getD #[]
theorem pool0_at (o s : Value) (ho : o.cells = #[o]) (hs : s.cells = #[s]) :
    Try.prog.built 68 [(6, o), (5, s)] = some (pool0 Try.prog o s) ∧ (pool0 Try.prog o s).size = 1449 ∧ (pool0 Try.prog o s)[12]? = some (.pointer none) ∧ (pool0 Try.prog o s)[1447]? = some s ∧ (pool0 Try.prog o s)[1448]? = some o ∧
      ∀ j, j < 60 → ∃ v, (pool0 Try.prog o s)[21 + j]? = some v ∧ v.oneCell' = true := by
  obtain ⟨z, h1, h2, h3, h4⟩ := built68 o s ho hs
  have e : pool0 Try.prog o s = (z.setIfInBounds 1448 o).setIfInBounds 1447 s := by rw [pool0, h4]; rfl
  rw [e]
  refine ⟨h4, by simp [h1], by simp [h2], by simp [h1], by simp [h1], fun j hj => ?_⟩
  rw [Array.getElem?_setIfInBounds_ne (by omega), Array.getElem?_setIfInBounds_ne (by omega)]
  have hz : z[21 + j]? = some z[21 + j] := by simp
  refine ⟨_, hz, ?_⟩
  have := List.all_eq_true.1 h3 z[21 + j] ?_
  · simpa using this
  · rw [List.mem_iff_getElem?]
    refine ⟨j, ?_⟩
    rw [List.getElem?_take, if_pos hj, List.getElem?_drop, Array.getElem?_toList]
    exact hz

def rBuild68 (P : Program) (x y : Value) (W : World) : Result Next := Sem.run P (do pure (.value (← Instr.build 68 #[(6, x), (5, y)]))) W
theorem ex_build68 (ρ : Operand → Value) (dst : Option Tmp) (x y : Operand) (ty : TypeId) (pos : String) (after : Array Edge) (guard : Option (Nat × Bool)) (W : World) :
    Sem.run Try.prog (execOp ρ { dst, op := .build 68 #[(6, x), (5, y)], type := ty, pos, after, guard }) W = rBuild68 Try.prog (ρ x) (ρ y) W := by
  simp [execOp, rBuild68]
theorem rBuild68_to (W : World) (k : IntKind) (o : Int) (a : Option Addr) (n c : Nat) : rBuild68 Try.prog (.int k o) (.slice a n c) W = .ok (.value (.agg (pool0 Try.prog (.int k o) (.slice a n c)))) W := by
  unfold rBuild68; rw [Sem.run_bind, run_build W 68 _ _ (pool0_at _ _ rfl rfl).1]; rfl

theorem pool_of_block {w : World} {p : Nat} {C : Array Value} {opt : Value} {a : Option Addr} {n c : Nat} {o : Int} (hb : w.heap[p]? = some (.cells C 68 (0, 0))) (h12 : C[12]? = some opt) (h47 : C[1447]? = some (.slice a n c)) (h48 : C[1448]? = some (.int .i64 o))
    (hone : ∀ j, j < 60 → ∃ v, C[21 + j]? = some v ∧ v.oneCell' = true) :
    ∃ bk : List Value, PoolAt w p bk opt n o ∧ ∀ j, j < 60 → bk[j]? = C[21 + j]? := by
  have hs : 1448 < C.size := (Array.getElem?_eq_some_iff.1 h48).1
  have hg : ∀ j, j < 60 → ((C.extract 21 (21 + 60)).toList)[j]? = C[21 + j]? := fun j hj => by
    rw [Array.getElem?_toList, Array.getElem?_extract, if_pos (by omega)]
  refine ⟨(C.extract 21 (21 + 60)).toList, ⟨World.rangeAt_of_block hb 21 60, by simp; omega, ?_, ?_, ⟨a, c, ?_⟩, ?_, ?_⟩, hg⟩
  · intro v hv
    obtain ⟨j, hj⟩ := List.mem_iff_getElem?.1 hv
    have hj' : j < 60 := by
      have := (List.getElem?_eq_some_iff.1 hj).1
      simp at this; omega
    rw [hg j hj'] at hj
    obtain ⟨u, hu, h1⟩ := hone j hj'
    rw [hu] at hj
    cases hj
    exact h1
  · rw [cell_of_row _ _ _ _ _ _ hb]; exact h12
  · rw [cell_of_row _ _ _ _ _ _ hb]; exact h47
  · rw [cell_of_row _ _ _ _ _ _ hb]; exact h48
  · exact frozen_of_row _ _ _ _ _ hb

/-- A store of a floating-point number (the walk has no rule of its own for that kind of value). -/
theorem store_float (P : Program) (w : World) (a : Addr) (m : Mode) (k : FloatKind) (x : Nat) : (store a (.float k x) m).run P w = stored P w a (.float k x) m := run_store P w a _ m rfl

/-- What ZZnewPool leaves. -/
def NewPost (w : World) (o : Int) (n : Nat) (ty : Int) (sk vo ra pr : Nat) (pd : Bool) (sp : Nat) (ap : Int) (e : Ending) (w' : World) : Prop :=
  ∃ p bk opt O, e = .returned (.pointer (some ⟨p, 0, none⟩)) ∧ w.heap.size ≤ p ∧ PoolAt w' p bk opt n o ∧ OptAt w' opt O ∧ Told bk O ty sk vo ra pr pd sp ap ∧ Below w.heap.size w w'

theorem pool_set {C : Array Value} {pr sp : Nat} {pd : Bool} {ap : Int} (hs : C.size = 1449) (hone : ∀ j, j < 60 → ∃ v, C[21 + j]? = some v ∧ v.oneCell' = true) :
    ∀ j, j < 60 → ∃ v, ((((C.setIfInBounds 21 (.float .f64 pr)).setIfInBounds 22 (.bool pd)).setIfInBounds 23 (.float .f64 sp)).setIfInBounds 30 (.int .u64 ap))[21 + j]? = some v ∧ v.oneCell' = true := by
  intro j hj
  simp only [Array.getElem?_setIfInBounds, Array.size_setIfInBounds, hs]
  by_cases h9 : 30 = 21 + j
  · exact ⟨.int .u64 ap, by simp [h9]; omega, rfl⟩
  by_cases h2 : 23 = 21 + j
  · exact ⟨.float .f64 sp, by rw [if_neg h9, if_pos h2, if_pos (by omega)], rfl⟩
  by_cases h1 : 22 = 21 + j
  · exact ⟨.bool pd, by rw [if_neg h9, if_neg h2, if_pos h1, if_pos (by omega)], rfl⟩
  by_cases h0 : 21 = 21 + j
  · exact ⟨.float .f64 pr, by rw [if_neg h9, if_neg h2, if_neg h1, if_pos h0, if_pos (by omega)], rfl⟩
  obtain ⟨v, hv, h⟩ := hone j hj
  exact ⟨v, by rw [if_neg h9, if_neg h2, if_neg h1, if_neg h0]; exact hv, h⟩

theorem new_end_nil {w wm : World} {C : Array Value} {a : Option Addr} {n c : Nat} {o : Int} {pr sp : Nat} {pd : Bool} {ap : Int} (hgrow : w.grownBy wm none) (hs : C.size = 1449) (h12 : C[12]? = some (.pointer none)) (h47 : C[1447]? = some (.slice a n c)) (h48 : C[1448]? = some (.int .i64 o))
    (hone : ∀ j, j < 60 → ∃ v, C[21 + j]? = some v ∧ v.oneCell' = true) :
    NewPost w o n 0 0 0 0 pr pd sp ap (.returned (.pointer (some ⟨wm.heap.size, 0, none⟩))) (wm.alloc (.cells ((((C.setIfInBounds 21 (.float .f64 pr)).setIfInBounds 22 (.bool pd)).setIfInBounds 23 (.float .f64 sp)).setIfInBounds 30 (.int .u64 ap)) 68)) := by
  obtain ⟨bk, hP, hB⟩ := pool_of_block (w := wm.alloc (.cells ((((C.setIfInBounds 21 (.float .f64 pr)).setIfInBounds 22 (.bool pd)).setIfInBounds 23 (.float .f64 sp)).setIfInBounds 30 (.int .u64 ap)) 68)) (heap_alloc_new wm _) (opt := .pointer none) (a := a) (n := n) (c := c) (o := o) (by simp [h12]) (by simp [h47]) (by simp [h48]) (pool_set hs hone)
  refine ⟨wm.heap.size, bk, .pointer none, zOpt, rfl, hgrow.size, hP, Or.inl ⟨rfl, rfl⟩, ⟨?_, ?_, ?_, ?_, rfl, rfl, rfl, rfl⟩, ((Below.refl _ w).grown hgrow (Nat.le_refl _) (fun _ h => by cases h)).alloc hgrow.size _⟩
  · rw [hB 0 (by omega)]; simp [hs]
  · rw [hB 1 (by omega)]; simp [hs]
  · rw [hB 2 (by omega)]; simp [hs]
  · rw [hB 9 (by omega)]; simp [hs]

theorem new_end_opt {w wm : World} {C : Array Value} {a : Option Addr} {n c : Nat} {o ty : Int} {sk vo ra pr sp : Nat} {pd : Bool} {ap : Int} (hgrow : w.grownBy wm none) (hs : C.size = 1449) (h47 : C[1447]? = some (.slice a n c)) (h48 : C[1448]? = some (.int .i64 o))
    (hone : ∀ j, j < 60 → ∃ v, C[21 + j]? = some v ∧ v.oneCell' = true) :
    NewPost w o n ty sk vo ra pr pd sp ap (.returned (.pointer (some ⟨wm.heap.size, 0, none⟩)))
      ((wm.alloc (.cells (((((C.setIfInBounds 12 (.pointer (some ⟨wm.heap.size + 1, 0, none⟩))).setIfInBounds 21 (.float .f64 pr)).setIfInBounds 22 (.bool pd)).setIfInBounds 23 (.float .f64 sp)).setIfInBounds 30 (.int .u64 ap)) 68)).alloc
        (.cells #[.int .i64 ty, .float .f64 sk, .int .u64 0, .int .i64 0, .pointer none, .float .f64 vo, .float .f64 ra] 71)) := by
  obtain ⟨C', hC'⟩ : ∃ C', C' = C.setIfInBounds 12 (.pointer (some ⟨wm.heap.size + 1, 0, none⟩)) := ⟨_, rfl⟩
  have hs' : C'.size = 1449 := by rw [hC']; simp [hs]
  have h12' : C'[12]? = some (.pointer (some ⟨wm.heap.size + 1, 0, none⟩)) := by rw [hC']; simp [hs]
  have h47' : C'[1447]? = some (.slice a n c) := by rw [hC']; simp [h47]
  have h48' : C'[1448]? = some (.int .i64 o) := by rw [hC']; simp [h48]
  have hone' : ∀ j, j < 60 → ∃ v, C'[21 + j]? = some v ∧ v.oneCell' = true := fun j hj => by
    obtain ⟨v, hv, h⟩ := hone j hj
    exact ⟨v, by rw [hC', Array.getElem?_setIfInBounds_ne (by omega)]; exact hv, h⟩
  rw [← hC']
  clear hC' hone h47 h48 hs
  obtain ⟨bk, hP, hB⟩ := pool_of_block (w := (wm.alloc (.cells ((((C'.setIfInBounds 21 (.float .f64 pr)).setIfInBounds 22 (.bool pd)).setIfInBounds 23 (.float .f64 sp)).setIfInBounds 30 (.int .u64 ap)) 68)).alloc
        (.cells #[.int .i64 ty, .float .f64 sk, .int .u64 0, .int .i64 0, .pointer none, .float .f64 vo, .float .f64 ra] 71)) (p := wm.heap.size)
      (by rw [Below.heap_alloc _ _ _ (by simp)]; exact heap_alloc_new wm _) (opt := .pointer (some ⟨wm.heap.size + 1, 0, none⟩)) (a := a) (n := n) (c := c) (o := o) (by simp [h12']) (by simp [h47']) (by simp [h48']) (pool_set hs' hone')
  refine ⟨wm.heap.size, bk, .pointer (some ⟨wm.heap.size + 1, 0, none⟩), [.int .i64 ty, .float .f64 sk, .int .u64 0, .int .i64 0, .pointer none, .float .f64 vo, .float .f64 ra], rfl, hgrow.size, hP, Or.inr ⟨_, rfl, ?_, rfl, ?_⟩, ⟨?_, ?_, ?_, ?_, rfl, rfl, rfl, rfl⟩,
    (((Below.refl _ w).grown hgrow (Nat.le_refl _) (fun _ h => by cases h)).alloc hgrow.size _).alloc (by simp; have := hgrow.size; omega) _⟩
  · intro j v hv
    have hh : ((wm.alloc (.cells ((((C'.setIfInBounds 21 (.float .f64 pr)).setIfInBounds 22 (.bool pd)).setIfInBounds 23 (.float .f64 sp)).setIfInBounds 30 (.int .u64 ap)) 68)).alloc
        (.cells #[.int .i64 ty, .float .f64 sk, .int .u64 0, .int .i64 0, .pointer none, .float .f64 vo, .float .f64 ra] 71)).heap[wm.heap.size + 1]? = _ := heap_alloc2_new wm _ _
    rw [cell_of_row _ _ _ _ _ _ hh, Nat.zero_add]
    simpa using hv
  · intro v hv
    simp only [List.mem_cons, List.not_mem_nil, or_false] at hv
    rcases hv with rfl | rfl | rfl | rfl | rfl | rfl | rfl <;> rfl
  · rw [hB 0 (by omega)]; simp [hs']
  · rw [hB 1 (by omega)]; simp [hs']
  · rw [hB 2 (by omega)]; simp [hs']
  · rw [hB 9 (by omega)]; simp [hs']

/-- The step of an operation whose run is known and turns no world. -/
theorem wpList_same {ops : Array Oper} {rest : List Oper} {o : Oper} {a : Act} {w : World} {Q : Exit → Act → World → Prop} {v : Value} (hg : o.guard = none) (hr : Sem.run Try.prog (execOp a.eval o) w = .ok (.value v) w) (h : wpList Try.prog ops Q rest (a.put o.dst v) w) : wpList Try.prog ops Q (o :: rest) a w := wpList_by hg hr h

section
attribute [local go_sem] store_float
set_option maxRecDepth 100000 in
set_option maxHeartbeats 1000000 in
theorem new_any (w : World) (o : Int) (n : Nat) (hn : n ≤ 4096) (hasOpt : Bool) (ty : Int) (sk vo ra pr : Nat) (pd : Bool) (sp : Nat) (ap : Int) :
    Calls Try.prog 4 #[.int .i64 o, .int .i64 n, .bool hasOpt, .int .i64 ty, .float .f64 sk, .float .f64 vo, .float .f64 ra, .float .f64 pr, .bool pd, .float .f64 sp, .int .u64 ap] w
      (NewPost w o n (if hasOpt then ty else 0) (if hasOpt then sk else 0) (if hasOpt then vo else 0) (if hasOpt then ra else 0) pr pd sp ap) := by
  obtain ⟨i0, hi, z0, hz0, hz1, hz2⟩ : ∃ i0, Try.prog.info? 97 = some i0 ∧ ∃ z, i0.zero = some z ∧ i0.size = 23 ∧ i0.bytes = 192 := by
    have h := Try.i97
    cases hi : Try.prog.info? 97 with
    | none => rw [hi] at h; cases h
    | some it =>
      rw [hi] at h
      simp only [Option.map_some, Option.some.injEq, Prod.mk.injEq] at h
      obtain ⟨z, hz⟩ := Option.isSome_iff_exists.1 h.1
      exact ⟨it, rfl, z, hz, h.2.1, h.2.2⟩
  obtain ⟨-, q1, q2, q3, q4, q5⟩ := pool0_at (.int .i64 o) (.slice (some ⟨w.heap.size, 0, none⟩) n n) rfl rfl
  obtain ⟨c21, d21, -⟩ := q5 0 (by omega)
  obtain ⟨c22, d22, -⟩ := q5 1 (by omega)
  obtain ⟨c23, d23, -⟩ := q5 2 (by omega)
  obtain ⟨c30, d30, -⟩ := q5 9 (by omega)
  simp only [Nat.reduceAdd] at d21 d22 d23 d30
  have Q5 : Hid (∀ j, j < 60 → ∃ v, (pool0 Try.prog (.int .i64 o) (.slice (some ⟨w.heap.size, 0, none⟩) n n))[21 + j]? = some v ∧ v.oneCell' = true) := q5
  clear q5
  obtain ⟨C, hC⟩ : ∃ C, C = pool0 Try.prog (.int .i64 o) (.slice (some ⟨w.heap.size, 0, none⟩) n n) := ⟨_, rfl⟩
  have hB : ∀ W, rBuild68 Try.prog (.int .i64 o) (.slice (some ⟨w.heap.size, 0, none⟩) n n) W = .ok (.value (.agg C)) W := fun W => by rw [hC]; exact rBuild68_to W _ _ _ _ _
  rw [← hC] at q1 q2 q3 q4 d21 d22 d23 d30 Q5
  clear hC
  cases hasOpt
  · simp only [Bool.false_eq_true, if_false]
    go_enter Try.func4, Try.ntmps4
    go_wp2_with (first | (refine wpList_same (o := { dst := some 27, op := .build 68 #[(6, .tmp 24), (5, .tmp 26)], type := _, pos := _, after := _, guard := _ }) (v := .agg C) rfl ?_ ?_; (· rw [ex_build68]; exact hB _)) | (at_make; refine wpList_make_full _ rfl (.tmp 25) (.tmp 25) 31 rfl w.heap.size 97 i0 z0 23 Try.underlying31 hi hz0 hz1 .i64 .i64 _ _ n rfl rfl (by omega) (by omega) (by rw [hz2]; omega) (by unfold maxLen; omega) (Nat.le_refl _) ?_; intro wm hown hgrow))
    go_ret
    exact new_end_nil hgrow q1 q2 q3 q4 Q5.out
  · simp only [if_true]
    go_enter Try.func4, Try.ntmps4
    go_wp2_with (first | (refine wpList_same (o := { dst := some 27, op := .build 68 #[(6, .tmp 24), (5, .tmp 26)], type := _, pos := _, after := _, guard := _ }) (v := .agg C) rfl ?_ ?_; (· rw [ex_build68]; exact hB _)) | (at_make; refine wpList_make_full _ rfl (.tmp 25) (.tmp 25) 31 rfl w.heap.size 97 i0 z0 23 Try.underlying31 hi hz0 hz1 .i64 .i64 _ _ n rfl rfl (by omega) (by omega) (by rw [hz2]; omega) (by unfold maxLen; omega) (Nat.le_refl _) ?_; intro wm hown hgrow))
    go_ret
    exact new_end_opt hgrow q1 q3 q4 Q5.out
end
end Go.Proofs.Qxb6613560a
