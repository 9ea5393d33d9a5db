/-
  THE LAW's WALK (function 3), out of the contracts of ZZnewPool, ZZsave, zzSameFloat, ZZpoolOpen.
-/
import Derived.Test.Qxb6613560aNew
namespace Go.Proofs.Qxb6613560a
open Go.RowKit

theorem Step.cell {p : Nat} {o : Int} {w w' : World} (h : Step p o w w') {a : Addr} (ha : a.block < w.heap.size) (hn : a ≠ ⟨p, 1448, none⟩) : w'.cell? a = w.cell? a := by
  rw [World.cell?_of_block (w := w.setCell ⟨p, 1448, none⟩ (.int .i64 o)) (h.block a.block ha)]
  exact World.cell?_setCell_other _ _ _ _ (Ne.symm hn)
theorem Step.frozen {p : Nat} {o : Int} {w w' : World} (h : Step p o w w') {a : Addr} (ha : a.block < w.heap.size) : w'.frozen? a = w.frozen? a := by
  rw [World.frozen?_of_block (w := w.setCell ⟨p, 1448, none⟩ (.int .i64 o)) (h.block a.block ha)]
  simp
theorem Step.openc {p : Nat} {o : Int} {w w' : World} {v : Value} (h : Step p o w w') (hv : w.cell? ⟨p, 1448, none⟩ = some v) : w'.cell? ⟨p, 1448, none⟩ = some (.int .i64 o) := by
  rw [World.cell?_of_block (w := w.setCell ⟨p, 1448, none⟩ (.int .i64 o)) (h.block p (World.block_lt_of_cell? w _ hv))]
  exact World.cell?_setCell_same _ _ _ hv
theorem Step.below {p B : Nat} {o : Int} {w w' : World} (h : Step p o w w') (hB : B ≤ p) (hs : B ≤ w.heap.size) : Below B w w' :=
  ⟨h.os, h.tape, h.output, h.size, fun k hk => by rw [h.block k (by omega)]; exact Below.heap_setCell _ _ _ _ (by show k ≠ p; omega)⟩
theorem Step.rangeAt {p b i : Nat} {o : Int} {w w' : World} {cs : List Value} (h : Step p o w w') (hr : w.rangeAt b i cs) (hi : i + cs.length ≤ 1448) : w'.rangeAt b i cs := fun j v hv => by
  have hc := hr j v hv
  have hj : j < cs.length := (List.getElem?_eq_some_iff.1 hv).1
  rw [h.cell (a := ⟨b, i + j, none⟩) (World.block_lt_of_cell? w _ hc) (fun e => by first | (simp at e; done) | (simp at e; omega))]
  exact hc
theorem Step.pool {p n : Nat} {o o' : Int} {w w' : World} {bk : List Value} {opt : Value} (h : Step p o' w w') (hP : PoolAt w p bk opt n o) : PoolAt w' p bk opt n o' := by
  obtain ⟨h1, h2, h3, h4, ⟨a, c, h5⟩, h6, h7⟩ := hP
  have hp := World.block_lt_of_cell? w _ h6
  exact ⟨h.rangeAt h1 (by omega), h2, h3, by rw [h.cell (a := ⟨p, 12, none⟩) hp (by simp)]; exact h4, ⟨a, c, by rw [h.cell (a := ⟨p, 1447, none⟩) hp (by simp)]; exact h5⟩, h.openc h6, by rw [h.frozen hp]; exact h7⟩
theorem Step.optAt {p : Nat} {o' : Int} {w w' : World} {O : List Value} {opt : Value} (h : Step p o' w w') (hO : OptAt w opt O) : OptAt w' opt O := by
  rcases hO with h1 | ⟨q, h1, h2, h3, h4⟩
  · exact Or.inl h1
  · exact Or.inr ⟨q, h1, h.rangeAt h2 (by omega), h3, h4⟩

set_option maxRecDepth 100000 in
set_option maxHeartbeats 4000000 in
theorem walk_main (w : World) (o : Int) (n : Nat) (hn : n ≤ 4096) (ho : 0 ≤ o) (ho' : o ≤ 9223372036854775805) (hasOpt : Bool) (ty : Int) (sk vo ra pr : Nat) (pd : Bool) (sp : Nat) (ap : Int) :
    Calls Try.prog 3 #[.int .i64 o, .int .i64 n, .bool hasOpt, .int .i64 ty, .float .f64 sk, .float .f64 vo, .float .f64 ra, .float .f64 pr, .bool pd, .float .f64 sp, .int .u64 ap] w
      fun e w' => e = .returned (.bool true) ∧ Below w.heap.size w w' := by
  cases hasOpt
  all_goals
    go_enter Try.func3, Try.ntmps3
    go_wp2_with fail
    refine (new_any _ o n hn _ ty sk vo ra pr pd sp ap).mono ?_
    rintro e w1 ⟨p, bk, opt, O, rfl, hp, hP, hO, hT, hb⟩
    simp only [if_true, if_false, Bool.false_eq_true] at hT
    have hpl : p < w1.heap.size := World.block_lt_of_cell? w1 _ hP.copen
    have K1 : Hid (PoolAt w1 p bk opt n o ∧ OptAt w1 opt O ∧ Told bk O _ _ _ _ _ _ _ _ ∧ Below w.heap.size w w1) := ⟨hP, hO, hT, hb⟩
    clear hP hO hT hb
    go_wp2_with fail
    refine (zsave_any w1 p bk opt O n o _ _ _ _ _ _ _ _ (by omega) (by omega) K1.out.1 K1.out.2.1 K1.out.2.2.1).mono ?_
    rintro e w2 ⟨rfl, st1⟩
    have K2 : Hid (PoolAt w2 p bk opt n (o + 1) ∧ OptAt w2 opt O ∧ Told bk O _ _ _ _ _ _ _ _ ∧ Below w.heap.size w w2) := ⟨st1.pool K1.out.1, st1.optAt K1.out.2.1, K1.out.2.2.1, K1.out.2.2.2.trans (st1.below hp K1.out.2.2.2.size)⟩
    have z2 := st1.size
    clear K1 st1
    go_wp2_with fail
    refine (zsave_any w2 p bk opt O n (o + 1) _ _ _ _ _ _ _ _ (by omega) (by omega) K2.out.1 K2.out.2.1 K2.out.2.2.1).mono ?_
    rintro e w3 ⟨rfl, st2⟩
    have z3 := st2.size
    have K3 : Hid (w3.cell? ⟨p, 1448, none⟩ = some (.int .i64 (o + 1 + 1)) ∧ Below w.heap.size w w3) := ⟨st2.openc K2.out.1.copen, K2.out.2.2.2.trans (st2.below hp K2.out.2.2.2.size)⟩
    clear K2 st2
    go_wp2_with fail
    refine (new_any _ (o + 1) n hn _ ty sk vo ra pr pd sp ap).mono ?_
    rintro e w4 ⟨q, bk', opt', O', rfl, hq, hP, hO, hT, hb⟩
    simp only [if_true, if_false, Bool.false_eq_true] at hT
    have K4 : Hid (PoolAt w4 q bk' opt' n (o + 1) ∧ OptAt w4 opt' O' ∧ Told bk' O' _ _ _ _ _ _ _ _ ∧ w4.cell? ⟨p, 1448, none⟩ = some (.int .i64 (o + 1 + 1)) ∧ Below w.heap.size w w4) :=
      ⟨hP, hO, hT, (hb.cell (p := ⟨p, 1448, none⟩) (by show p < w3.heap.size; omega)).trans K3.out.1, K3.out.2.trans (hb.mono K3.out.2.size)⟩
    have z4 := hb.size
    clear K3 hP hO hT hb
    go_wp2_with fail
    refine (zsave_any w4 q bk' opt' O' n (o + 1) _ _ _ _ _ _ _ _ (by omega) (by omega) K4.out.1 K4.out.2.1 K4.out.2.2.1).mono ?_
    rintro e w5 ⟨rfl, st5⟩
    have cq : w5.cell? ⟨q, 1448, none⟩ = some (.int .i64 (o + 1 + 1)) := st5.openc K4.out.1.copen
    have cp : w5.cell? ⟨p, 1448, none⟩ = some (.int .i64 (o + 1 + 1)) := by
      rw [st5.cell (a := ⟨p, 1448, none⟩) (by show p < w4.heap.size; omega) (fun e => by first | (simp at e; done) | (simp at e; omega))]
      exact K4.out.2.2.2.1
    have K5 : Hid (Below w.heap.size w w5) := K4.out.2.2.2.2.trans (st5.below (by have := K4.out.2.2.2.2.size; omega) K4.out.2.2.2.2.size)
    rw [show o + 1 + 1 = o + 2 by omega] at cp cq
    clear K4 st5
    go_wp2_with (first
      | (go_at_call 6; refine (same_any _ _).mono ?_; rintro e w' ⟨rfl, rfl⟩)
      | (go_at_call 7; refine (open_any _ _ _ (by assumption)).mono ?_; rintro e w' ⟨rfl, rfl⟩))
    go_ret
    exact ⟨rfl, K5.out⟩
end Go.Proofs.Qxb6613560a
