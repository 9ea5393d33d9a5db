/-
  CLOSED FACTS AND LAWS OF THIS PROGRAM's LARGE STRUCTS (Pool: type 68, 1449 cells; savepoint: type 73, 69 cells; books: type 54, 60 cells; Option: type 71, 7 cells).
-/
import Derived.Test.Qxb6613560aRows
import Derived.WalkKit
import Derived.ProofKit
import Derived.WalkLawsBesides
import Derived.OwnWalk
import Derived.Deep.MidRow
namespace Go.Proofs.Qxb6613560a
open Go.RowKit

theorem Try.z68 : (Try.prog.info? 68).map (fun i => (i.size, i.zero.map fun v => (v.cells.toList.length, v.cells.toList[12]?, ((v.cells.toList.drop 21).take 60).all (·.oneCell')))) = some (1449, some (1449, some (.pointer none), true)) := by kernel_rfl
theorem Try.z73 : (Try.prog.info? 73).map (fun i => (i.size, i.zero.map fun v => (v.cells.toList.length, v.cells.toList.all (·.oneCell'), (v.cells.toList.drop 60).take 7))) =
    some (69, some (69, true, [.int .i64 0, .float .f64 0, .int .u64 0, .int .i64 0, .pointer none, .float .f64 0, .float .f64 0])) := by kernel_rfl
theorem Try.s68 : (Try.prog.info? 68).map (·.size) = some 1449 := by kernel_rfl
theorem Try.s73 : (Try.prog.info? 73).map (·.size) = some 69 := by kernel_rfl
theorem Try.s54 : (Try.prog.info? 54).map (·.size) = some 60 := by kernel_rfl
theorem Try.s71 : (Try.prog.info? 71).map (·.size) = some 7 := by kernel_rfl
theorem Try.i97 : (Try.prog.info? 97).map (fun i => (i.zero.isSome, i.size, i.bytes)) = some (true, 23, 192) := by kernel_rfl

theorem Try.p68 : ∃ fs : Array Field, Try.prog.underlying 68 = some (.struct fs) ∧ fs.toList.mapM (fun f => (Try.prog.info? f.type).map fun i => (f.offset, i.size)) = some [(0, 12), (12, 1), (13, 8), (21, 60), (81, 1366), (1447, 1), (1448, 1)] := ⟨_, Try.underlying68, by kernel_rfl⟩
theorem Try.p73 : ∃ fs : Array Field, Try.prog.underlying 73 = some (.struct fs) ∧ fs.toList.mapM (fun f => (Try.prog.info? f.type).map fun i => (f.offset, i.size)) = some [(0, 60), (60, 7), (67, 1), (68, 1)] := ⟨_, Try.underlying73, by kernel_rfl⟩

theorem built_struct {P : Program} {t : TypeId} {it : TypeInfo} {fields : Array Field} {z : Value} {places : List (Nat × Nat)} (hi : P.info? t = some it) (hu : P.underlying t = some (.struct fields)) (hz : it.zero = some z)
    (hp : fields.toList.mapM (fun f => (P.info? f.type).map fun i => (f.offset, i.size)) = some places) (parts : List (Nat × Value)) : P.built t parts = Instr.fill (fun i => places.toArray[i]?) z.cells parts := by
  unfold Program.built
  simp only [hi, hu, hz, hp]

/-- A value of one cell laid at one place. -/
theorem fill_one {place : Nat → Option (Nat × Nat)} {cells : Array Value} {i : Nat} {v : Value} {rest : List (Nat × Value)} {off : Nat} (hv : v.cells = #[v]) (hp : place i = some (off, 1)) (hs : off < cells.size) :
    Instr.fill place cells ((i, v) :: rest) = Instr.fill place (cells.setIfInBounds off v) rest := by
  rw [Instr.fill, hp]
  simp only [hv]
  rw [if_neg (by simp; omega)]
  rfl

theorem built68 (o s : Value) (ho : o.cells = #[o]) (hs : s.cells = #[s]) :
    ∃ z : Array Value, z.size = 1449 ∧ z[12]? = some (.pointer none) ∧ ((z.toList.drop 21).take 60).all (·.oneCell') = true ∧
      Try.prog.built 68 [(6, o), (5, s)] = some ((z.setIfInBounds 1448 o).setIfInBounds 1447 s) := by
  have h := Try.z68
  obtain ⟨fs, hu, hp⟩ := Try.p68
  cases hi : Try.prog.info? 68 with
  | none => rw [hi] at h; cases h
  | some it =>
    rw [hi] at h
    cases hz : it.zero with
    | none => simp [hz] at h
    | some v =>
      simp only [hz, Option.map_some, Option.some.injEq, Prod.mk.injEq, Array.length_toList, Array.getElem?_toList] at h
      obtain ⟨_, h1, h2, h3⟩ := h
      refine ⟨v.cells, h1, h2, h3, ?_⟩
      rewrite [built_struct hi hu hz hp, fill_one ho (off := 1448) rfl (by omega), fill_one hs (off := 1447) rfl (by simp; omega)]
      simp only [Instr.fill]

theorem fold_get (off : Nat) : ∀ (l : List Value) (n : Nat) (cells : Array Value), off + n + l.length ≤ cells.size → ∀ k,
    ((l.zipIdx n).foldl (fun (cs : Array Value) (p : Value × Nat) => cs.setIfInBounds (off + p.2) p.1) cells)[k]? = if off + n ≤ k ∧ k < off + n + l.length then l[k - (off + n)]? else cells[k]?
  | [], n, cells, h, k => by simp; omega
  | v :: l, n, cells, h, k => by
    simp only [List.length_cons] at h
    rw [List.zipIdx_cons, List.foldl_cons, fold_get off l (n + 1) _ (by simp; omega) k]
    by_cases h1 : k = off + n
    · subst h1
      rw [if_neg (by omega), if_pos (by simp)]
      have : off + n < cells.size := by omega
      simp [this]
    · by_cases h2 : off + n ≤ k ∧ k < off + n + (v :: l).length
      · rw [if_pos (by simp at h2; omega), if_pos h2]
        have e : k - (off + n) = (k - (off + (n + 1))) + 1 := by simp at h2; omega
        rw [e, List.getElem?_cons_succ]
      · rw [if_neg (by simp at h2; omega), if_neg h2]
        simp [Ne.symm h1]

/-- Many cells laid at one place. -/
theorem fill_many {place : Nat → Option (Nat × Nat)} {cells : Array Value} {i : Nat} {B : List Value} {rest : List (Nat × Value)} {off : Nat} (hp : place i = some (off, B.length)) (hs : off + B.length ≤ cells.size) :
    ∃ cells' : Array Value, Instr.fill place cells ((i, .agg B.toArray) :: rest) = Instr.fill place cells' rest ∧ cells'.size = cells.size ∧ ∀ k, cells'[k]? = if off ≤ k ∧ k < off + B.length then B[k - off]? else cells[k]? := by
  refine ⟨(B.zipIdx 0).foldl (fun (cs : Array Value) (p : Value × Nat) => cs.setIfInBounds (off + p.2) p.1) cells, ?_, ?_, ?_⟩
  · rw [Instr.fill, hp]
    have hc : (Value.agg B.toArray).cells = B.toArray := rfl
    have hn : ¬ ((decide ((Value.agg B.toArray).cells.size ≠ B.length) || decide (off + (Value.agg B.toArray).cells.size > cells.size)) = true) := by rw [hc]; simp; omega
    simp only [hn]
    rw [hc, ← Array.foldl_toList, Array.toList_zipIdx]
    rfl
  · have : ∀ (l : List (Value × Nat)) (c : Array Value), (l.foldl (fun (cs : Array Value) (p : Value × Nat) => cs.setIfInBounds (off + p.2) p.1) c).size = c.size := by
      intro l
      induction l with
      | nil => intro c; rfl
      | cons a l ih => intro c; rw [List.foldl_cons, ih]; simp
    exact this _ _
  · intro k
    have := fold_get off B 0 cells (by omega) k
    simpa using this

/-- The seven cells of an Option at its zero value. -/
def zOpt : List Value := [.int .i64 0, .float .f64 0, .int .u64 0, .int .i64 0, .pointer none, .float .f64 0, .float .f64 0]
/-- A savepoint's cells: books, option, undo, open. -/
def sv (B O : List Value) (u o : Value) : List Value := B ++ (O ++ [u, o])

theorem built73 (B : List Value) (hB : B.length = 60) (u o : Value) (hu : u.cells = #[u]) (ho : o.cells = #[o]) : Try.prog.built 73 [(0, .agg B.toArray), (2, u), (3, o)] = some (sv B zOpt u o).toArray := by
  have h := Try.z73
  obtain ⟨fs, hud, hp⟩ := Try.p73
  cases hi : Try.prog.info? 73 with
  | none => rw [hi] at h; cases h
  | some it =>
    rw [hi] at h
    cases hz : it.zero with
    | none => simp [hz] at h
    | some v =>
      simp only [hz, Option.map_some, Option.some.injEq, Prod.mk.injEq, Array.length_toList] at h
      obtain ⟨_, h1, h2, h3⟩ := h
      obtain ⟨c', e1, e2, e3⟩ := fill_many (place := fun i => [(0, 60), (60, 7), (67, 1), (68, 1)].toArray[i]?) (cells := v.cells) (i := 0) (B := B) (rest := [(2, u), (3, o)]) (off := 0) (by rw [hB]; rfl) (by omega)
      rewrite [built_struct hi hud hz hp, e1, fill_one hu (off := 67) rfl (by omega), fill_one ho (off := 68) rfl (by simp; omega)]
      simp only [Instr.fill, Option.some.injEq]
      apply Array.ext_getElem?
      intro k
      simp only [Array.getElem?_setIfInBounds, List.getElem?_toArray, e3, Array.size_setIfInBounds, e2, h1, sv, hB]
      have h4 : ∀ j, j < 7 → v.cells[60 + j]? = zOpt[j]? := by
        intro j hj
        have : ((v.cells.toList.drop 60).take 7)[j]? = zOpt[j]? := by rw [h3]; rfl
        rw [List.getElem?_take, if_pos hj, List.getElem?_drop, Array.getElem?_toList] at this
        exact this
      by_cases k1 : k < 60
      · simp [k1, show ¬ 68 = k by omega, show ¬ 67 = k by omega, List.getElem?_append, hB]
      · by_cases k2 : k < 67
        · have h5 := h4 (k - 60) (by omega)
          rw [show 60 + (k - 60) = k by omega] at h5
          have h6 : (zOpt ++ [u, o])[k - 60]? = zOpt[k - 60]? := List.getElem?_append_left (by show k - 60 < 7; omega)
          simp [k1, show ¬ 68 = k by omega, show ¬ 67 = k by omega, List.getElem?_append_right, hB, h5, show 60 ≤ k by omega, h6]
        · by_cases k3 : k = 67
          · subst k3; simp [hB, zOpt]
          · by_cases k4 : k = 68
            · subst k4; simp [hB, zOpt]
            · have : v.cells[k]? = none := Array.getElem?_eq_none (by omega)
              simp [k1, Ne.symm k3, Ne.symm k4, List.getElem?_append, hB, zOpt, this]
              omega

/-! ### LAWS AT A PLAIN REGION's LIST -/
theorem wpList_build_to {P : Program} {ops : Array Oper} {rest : List Oper} {o : Oper} {a : Act} {w : World} {Q : Exit → Act → World → Prop} (hg : o.guard = none) (t : TypeId) (parts : Array (Nat × Operand)) (ho : o.op = .build t parts)
    (vals : List (Nat × Value)) (hv : (parts.map fun (i, x) => (i, a.eval x)).toList = vals) (cells : Array Value) (hb : P.built t vals = some cells)
    (h : wpList P ops Q rest (a.put o.dst (.agg cells)) w) : wpList P ops Q (o :: rest) a w := by
  refine wpList_build hg t parts ho (by rw [hv, hb]; rfl) ?_
  rw [hv, hb]
  exact h

theorem wpList_alloc_to {P : Program} {ops : Array Oper} {rest : List Oper} {o : Oper} {a : Act} {w : World} {Q : Exit → Act → World → Prop} (hg : o.guard = none) (t : TypeId) (ho : o.op = .alloc t)
    (z : Value) (hz : (zeroValue t).run P w = .ok z w) (h : wpList P ops Q rest (a.put o.dst (.pointer (some ⟨w.heap.size, 0, none⟩))) (w.alloc (.cells z.cells t))) : wpList P ops Q (o :: rest) a w := by
  refine wpList_plain hg fun K hK => ?_
  unfold Oper.wp execOp
  have e : (newVar t z).run P w = .ok ⟨w.heap.size, 0, none⟩ (w.alloc (.cells z.cells t)) := by
    simp [newVar, newRow]
  simp only [ho, Instr.alloc, Sem.run_bind, hz, Result.andThen_ok, e, Sem.run_pure]
  exact hK _ _ h

/-- The 60 cells of the books at their zero value. -/
def zBooks : List Value := [.float .f64 0, .bool false, .float .f64 0, .int .u64 0, .int .i64 0, .pointer none, .int .u64 0, .int .i64 0, .pointer none] ++ List.replicate 17 (.int .u64 0) ++ [.map none] ++ List.replicate 33 (.int .u64 0)
/-- The 69 cells of a savepoint at its zero value. -/
def zSave : Array Value := (sv zBooks zOpt (.int .i64 0) (.int .i64 0)).toArray
theorem Try.zero73 : (Try.prog.info? 73).map (fun i => (i.zero, i.size)) = some (some (.agg zSave), 69) := by kernel_rfl
theorem zSave_size : zSave.size = 69 := by decide
theorem run_zero73 (w : World) : (zeroValue 73).run Try.prog w = .ok (.agg zSave) w := by
  have h := Try.zero73
  cases hi : Try.prog.info? 73 with
  | none => rw [hi] at h; cases h
  | some it =>
    rw [hi] at h
    simp only [Option.map_some, Option.some.injEq, Prod.mk.injEq] at h
    simp [zeroValue, typeInfo, hi, h.1]

/-! ### THE WHOLE OPERATIONS, AS RULES FOR THE WALK -/
/-- What the books at block p hold, and that they are there. -/
def booksOf (W : World) (p : Nat) : List Value := (List.range 60).map fun j => (W.cell? ⟨p, 21 + j, none⟩).getD undef
def booksIn (W : World) (p : Nat) : Bool := (List.range 60).all fun j => (W.cell? ⟨p, 21 + j, none⟩).isSome
theorem books_range {W : World} {p : Nat} (h : booksIn W p = true) : W.rangeAt p 21 (booksOf W p) := by
  intro j v hv
  have hj : j < 60 := by
    have := (List.getElem?_eq_some_iff.1 hv).1
    simpa [booksOf] using this
  have h1 : (W.cell? ⟨p, 21 + j, none⟩).isSome = true := by
    have := List.all_eq_true.1 h j (by simpa using hj)
    simpa using this
  have h2 : (booksOf W p)[j]? = some ((W.cell? ⟨p, 21 + j, none⟩).getD undef) := by simp [booksOf, hj]
  rw [h2] at hv
  obtain ⟨u, hu⟩ := Option.isSome_iff_exists.1 h1
  rw [hu] at hv ⊢
  exact hv
theorem books_len (W : World) (p : Nat) : (booksOf W p).length = 60 := by simp [booksOf]
theorem ld54 (W : World) (p : Nat) (h : booksIn W p = true) : (Instr.loadAt 54 (.pointer (some ⟨p, 21, none⟩))).run Try.prog W = .ok (.agg (booksOf W p).toArray) W :=
  run_loadAt_mid W p 21 54 _ _ (books_range h) Try.underlying54 rfl (by rw [Try.s54, books_len])
theorem al73 (W : World) : (Instr.alloc 73 true (.tuple #[])).run Try.prog W = .ok (.pointer (some ⟨W.heap.size, 0, none⟩)) (W.alloc (.cells zSave 73)) := by
  have e : (newVar 73 (.agg zSave)).run Try.prog W = .ok ⟨W.heap.size, 0, none⟩ (W.alloc (.cells zSave 73)) := by
    simp [newVar, newRow, Value.cells]
  simp only [Instr.alloc, Sem.run_bind, run_zero73, Result.andThen_ok, e, Sem.run_pure]
theorem bd73 (W : World) (B : List Value) (n o : Int) (h : B.length = 60) : (Instr.build 73 #[(0, .agg B.toArray), (2, .int .i64 n), (3, .int .i64 o)]).run Try.prog W = .ok (.agg (sv B zOpt (.int .i64 n) (.int .i64 o)).toArray) W :=
  run_build W 73 _ _ (built73 B h _ _ rfl rfl)
theorem st73 (W : World) (L : List Value) (hl : L.length = 69) (h1 : (L.all fun v => v.oneCell') = true) :
    (Instr.storeAt 73 (.pointer (some ⟨W.heap.size, 0, none⟩)) (.agg L.toArray)).run Try.prog (W.alloc (.cells zSave 73)) = .ok () (W.alloc (.cells L.toArray 73)) := by
  simp only [Instr.storeAt, Instr.sureAddr, Sem.run_bind, Sem.run_pure, Result.andThen_ok]
  have hs : zSave.size = L.toArray.size := by rw [zSave_size]; simp [hl]
  rw [run_storeVar_row _ _ 73 73 zSave L.toArray (heap_alloc_new W _) (by rw [Try.s73]; simp [hl]) hs (by simpa using h1)]
  simp only [World.setRow, World.alloc]
  congr 2
  apply Array.ext_getElem?
  intro i
  rw [Array.getElem?_modify, Array.getElem?_push, Array.getElem?_push]
  by_cases h : W.heap.size = i
  · subst h; simp
  · simp [h, Ne.symm h]
theorem st73d (W : World) (b : Nat) (L : List Value) (hb : b = W.heap.size) (hl : L.length = 69) (h1 : (L.all fun v => v.oneCell') = true) :
    (Instr.storeAt 73 (.pointer (some ⟨b, 0, none⟩)) (.agg L.toArray)).run Try.prog (W.alloc (.cells zSave 73)).drew = .ok () (W.alloc (.cells L.toArray 73)).drew := by
  subst hb
  exact st73 W.drew L hl h1
theorem sv_len {B O : List Value} (hB : B.length = 60) (hO : O.length = 7) (u o : Value) : (sv B O u o).length = 69 := by simp [sv, hB, hO]
theorem sv_one {B O : List Value} (hB : ∀ v ∈ B, v.oneCell' = true) (hO : ∀ v ∈ O, v.oneCell' = true) {u o : Value} (hu : u.oneCell' = true) (ho : o.oneCell' = true) : ((sv B O u o).all fun v => v.oneCell') = true := by
  simp only [sv, List.all_append, Bool.and_eq_true, List.all_eq_true, List.all_cons, List.all_nil]
  exact ⟨hB, hO, hu, ho, trivial⟩

end Go.Proofs.Qxb6613560a
