/-
  'ZZsave' (function 5), 'ZZpoolOpen' (7), 'zzSameFloat' (6) BY THEIR CONTRACTS.
-/
import Derived.Test.Qxb6613560aSave
namespace Go.Proofs.Qxb6613560a
open Go.RowKit

/-- The option as the pool's pointer tells it: none (the zero value), or seven cells. -/
def OptAt (w : World) (opt : Value) (O : List Value) : Prop :=
  (opt = .pointer none ∧ O = zOpt) ∨ ∃ q, opt = .pointer (some ⟨q, 0, none⟩) ∧ w.rangeAt q 0 O ∧ O.length = 7 ∧ ∀ v ∈ O, v.oneCell' = true

theorem OptAt.len {w : World} {opt : Value} {O : List Value} (h : OptAt w opt O) : O.length = 7 ∧ ∀ v ∈ O, v.oneCell' = true := by
  rcases h with ⟨_, rfl⟩ | ⟨q, _, _, h1, h2⟩
  · exact ⟨rfl, by decide⟩
  · exact ⟨h1, h2⟩

theorem save_any (w : World) (p : Nat) (bk : List Value) (opt : Value) (O : List Value) (n : Nat) (o : Int) (ho : 0 ≤ o) (ho' : o < 9223372036854775807) (H : PoolAt w p bk opt n o) (HO : OptAt w opt O) :
    Calls Try.prog 8 #[.pointer (some ⟨p, 0, none⟩)] w fun e w' => e = .returned (.agg (sv bk O (.int .i64 n) (.int .i64 o)).toArray) ∧ Step p (o + 1) w w' := by
  rcases HO with ⟨rfl, rfl⟩ | ⟨q, rfl, h1, h2, h3⟩
  · exact save_nil w p bk n o ho ho' H
  · exact save_opt w p bk q O n o ho ho' H h1 h2 h3

theorem Step.alloc {p : Nat} {o : Int} {w w' : World} (h : Step p o w w') (ob : Obj) : Step p o w (w'.alloc ob) :=
  ⟨h.os, h.tape, h.output, by simp; have := h.size; omega, fun k hk => by rw [Below.heap_alloc _ _ _ (by have := h.size; omega)]; exact h.block k hk⟩
theorem Step.drewN {p : Nat} {o : Int} {w w' : World} (h : Step p o w w') (n : Nat) : Step p o w (w'.drewN n) :=
  ⟨h.os, h.tape, h.output, h.size, h.block⟩

theorem sv_at {B O : List Value} (hB : B.length = 60) (hO : O.length = 7) (u o : Value) :
    (∀ i, i < 60 → (sv B O u o)[i]? = B[i]?) ∧ (∀ i, i < 7 → (sv B O u o)[60 + i]? = O[i]?) ∧ (sv B O u o)[67]? = some u ∧ (sv B O u o)[68]? = some o := by
  refine ⟨fun i hi => ?_, fun i hi => ?_, ?_, ?_⟩
  · rw [sv, List.getElem?_append_left (by omega)]
  · rw [sv, List.getElem?_append_right (by omega), List.getElem?_append_left (by omega)]
    congr 1; omega
  · rw [sv, List.getElem?_append_right (by omega), List.getElem?_append_right (by omega), hB, hO]; rfl
  · rw [sv, List.getElem?_append_right (by omega), List.getElem?_append_right (by omega), hB, hO]; rfl

/-- What is told of the books and of the option. -/
structure Told (bk O : List Value) (ty : Int) (sk vo ra pr : Nat) (pd : Bool) (sp : Nat) (ap : Int) : Prop where
  pr : bk[0]? = some (.float .f64 pr)
  pd : bk[1]? = some (.bool pd)
  sp : bk[2]? = some (.float .f64 sp)
  ap : bk[9]? = some (.int .u64 ap)
  ty : O[0]? = some (.int .i64 ty)
  sk : O[1]? = some (.float .f64 sk)
  vo : O[5]? = some (.float .f64 vo)
  ra : O[6]? = some (.float .f64 ra)

section
set_option maxRecDepth 100000 in
set_option maxHeartbeats 1000000 in
theorem zsave_any (w : World) (p : Nat) (bk : List Value) (opt : Value) (O : List Value) (n : Nat) (o : Int) (ty : Int) (sk vo ra pr : Nat) (pd : Bool) (sp : Nat) (ap : Int)
    (ho : 0 ≤ o) (ho' : o < 9223372036854775807) (H : PoolAt w p bk opt n o) (HO : OptAt w opt O) (HT : Told bk O ty sk vo ra pr pd sp ap) :
    Calls Try.prog 5 #[.pointer (some ⟨p, 0, none⟩)] w fun e w' =>
      e = .returned (.tuple #[.int .i64 o, .int .i64 n, .int .i64 ty, .float .f64 sk, .float .f64 vo, .float .f64 ra, .float .f64 pr, .bool pd, .float .f64 sp, .int .u64 ap]) ∧ Step p (o + 1) w w' := by
  have hC := save_any w p bk opt O n o ho ho' H HO
  obtain ⟨hO7, hO1⟩ := HO.len
  have hL := sv_len H.len hO7 (.int .i64 n) (.int .i64 o)
  have h1L := sv_one (O := O) H.one hO1 (u := .int .i64 n) (o := .int .i64 o) rfl rfl
  obtain ⟨s1, s2, s3, s4⟩ := sv_at H.len hO7 (.int .i64 n) (.int .i64 o)
  have HS : Hid ((sv bk O (.int .i64 n) (.int .i64 o))[0]? = some (.float .f64 pr) ∧ (sv bk O (.int .i64 n) (.int .i64 o))[1]? = some (.bool pd) ∧ (sv bk O (.int .i64 n) (.int .i64 o))[2]? = some (.float .f64 sp) ∧ (sv bk O (.int .i64 n) (.int .i64 o))[9]? = some (.int .u64 ap) ∧
      (sv bk O (.int .i64 n) (.int .i64 o))[60]? = some (.int .i64 ty) ∧ (sv bk O (.int .i64 n) (.int .i64 o))[61]? = some (.float .f64 sk) ∧ (sv bk O (.int .i64 n) (.int .i64 o))[65]? = some (.float .f64 vo) ∧ (sv bk O (.int .i64 n) (.int .i64 o))[66]? = some (.float .f64 ra) ∧
      (sv bk O (.int .i64 n) (.int .i64 o))[67]? = some (.int .i64 n) ∧ (sv bk O (.int .i64 n) (.int .i64 o))[68]? = some (.int .i64 o)) :=
    ⟨(s1 0 (by omega)).trans HT.pr, (s1 1 (by omega)).trans HT.pd, (s1 2 (by omega)).trans HT.sp, (s1 9 (by omega)).trans HT.ap, (s2 0 (by omega)).trans HT.ty, (s2 1 (by omega)).trans HT.sk, (s2 5 (by omega)).trans HT.vo, (s2 6 (by omega)).trans HT.ra, s3, s4⟩
  clear s1 s2 s3 s4 H HO HT hO7 hO1
  obtain ⟨SV, hSV⟩ : ∃ SV, SV = sv bk O (.int .i64 n) (.int .i64 o) := ⟨_, rfl⟩
  rw [← hSV] at HS hL h1L hC
  clear hSV
  go_enter Try.func5, Try.ntmps5
  go_wp2_with (first | (go_at_call 8; refine hC.mono ?_; rintro e w1 ⟨rfl, hst⟩) | (refine wpList_by (o := { dst := some 12, op := .alloc 73, type := _, pos := _, after := _, guard := _ }) rfl ((ex_alloc _ _ _ _ _ _ _).trans (rAlloc_to _)) ?_) | (refine wpList_by0 (o := { dst := none, op := .store 73 (.tmp 12) (.tmp 14), type := _, pos := _, after := _, guard := _ }) rfl ((ex_store _ _ _ _ _ _ _ _ _).trans (rStore_to' _ _ SV rfl hL h1L)) ?_))
  obtain ⟨A, hA⟩ : ∃ A, A = SV.toArray := ⟨_, rfl⟩
  rw [← hA]
  obtain ⟨f0, f1, f2, f9, f60, f61, f65, f66, f67, f68⟩ := HS.out
  have e : ∀ (i : Nat) (v : Value), SV[i]? = some v → A[i]? = some v := fun i v h => by rw [hA]; simpa using h
  replace f0 := e _ _ f0
  replace f1 := e _ _ f1
  replace f2 := e _ _ f2
  replace f9 := e _ _ f9
  replace f60 := e _ _ f60
  replace f61 := e _ _ f61
  replace f65 := e _ _ f65
  replace f66 := e _ _ f66
  replace f67 := e _ _ f67
  replace f68 := e _ _ f68
  clear e hA HS hC hL h1L
  go_quiet (fail)
  go_wp2
  refine bodyPost_ret (v := .tuple #[.int .i64 o, .int .i64 n, .int .i64 ty, .float .f64 sk, .float .f64 vo, .float .f64 ra, .float .f64 pr, .bool pd, .float .f64 sp, .int .u64 ap]) (by simp [results, Try.results5, go_sem]) rfl ⟨rfl, ?_⟩
  exact (hst.alloc _).drewN _
end

/-- 'zzSameFloat' of a number and itself: whatever its bits. -/
theorem same_any (x : Nat) (w : World) : Calls Try.prog 6 #[.float .f64 x, .float .f64 x] w fun e w' => e = .returned (.bool true) ∧ w' = w := by
  cases h : (FloatKind.f64.format.order x x == some .eq)
  · have h' : (FloatKind.f64.format.order x x != some .eq) = true := by simp only [bne, h]; rfl
    go_enter Try.func6, Try.ntmps6
    go_wp2
    go_ret
    exact ⟨rfl, rfl⟩
  · go_enter Try.func6, Try.ntmps6
    go_wp2
    go_ret
    exact ⟨rfl, rfl⟩

theorem open_any (w : World) (p : Nat) (o : Int) (h : w.cell? ⟨p, 1448, none⟩ = some (.int .i64 o)) : Calls Try.prog 7 #[.pointer (some ⟨p, 0, none⟩)] w fun e w' => e = .returned (.int .i64 o) ∧ w' = w := by
  go_enter Try.func7, Try.ntmps7
  go_wp2
  go_ret
  exact ⟨rfl, rfl⟩
end Go.Proofs.Qxb6613560a
