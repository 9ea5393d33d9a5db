/-
  THE CALLED FUNCTIONS BY THEIR CONTRACTS: ZZnewRules (6), Fair (7), ZZclearRound (8), ZZdeal (9), clearRound (10).
-/
import Derived.Test.Qxb6614034aRows
import Derived.WalkKit
import Derived.WalkSpells
import Derived.ProofKit
import Derived.WalkLawsBesides
import Derived.OwnWalk
namespace Go.Proofs.Qxb6614034a
open Go.RowKit

theorem blk_lt {w : World} {k : Nat} {o : Obj} (h : w.heap[k]? = some o) : k < w.heap.size := (Array.getElem?_eq_some_iff.1 h).1

/-- The rules at block 'p' hold the deal 'd'. -/
structure RulesAt (w : World) (p : Nat) (d : Value) : Prop where
  blk : ∃ C, w.heap[p]? = some (.cells C 55 (0, 0)) ∧ C.size = 33 ∧ C[10]? = some d

theorem RulesAt.lt {w : World} {p : Nat} {d : Value} (h : RulesAt w p d) : p < w.heap.size := by
  obtain ⟨C, h1, _⟩ := h.blk
  exact blk_lt h1
theorem RulesAt.deal {w : World} {p : Nat} {d : Value} (h : RulesAt w p d) : w.cell? ⟨p, 10, none⟩ = some d := by
  obtain ⟨C, h1, _, h3⟩ := h.blk
  rw [cell_of_row _ _ _ _ _ _ h1]; exact h3
theorem RulesAt.some {w : World} {p : Nat} {d : Value} (h : RulesAt w p d) (o : Nat) (ho : o < 33) : (∃ u, w.cell? ⟨p, o, none⟩ = Option.some u) ∧ w.frozen? ⟨p, o, none⟩ = false := by
  obtain ⟨C, h1, h2, h3⟩ := h.blk
  refine ⟨⟨C[o], ?_⟩, frozen_of_row _ _ _ _ _ h1⟩
  rw [cell_of_row _ _ _ _ _ _ h1]
  simp [show o < C.size by omega]
theorem RulesAt.alloc {w : World} {p : Nat} {d : Value} (h : RulesAt w p d) (ob : Obj) : RulesAt (w.alloc ob) p d := by
  obtain ⟨C, h1, h2, h3⟩ := h.blk
  exact ⟨C, by rw [Below.heap_alloc _ _ _ h.lt]; exact h1, h2, h3⟩
theorem RulesAt.set {w : World} {p : Nat} {d : Value} (h : RulesAt w p d) (o : Nat) (ho : o ≠ 10) (v : Value) : RulesAt (w.setCell ⟨p, o, none⟩ v) p d := by
  obtain ⟨C, h1, h2, h3⟩ := h.blk
  exact ⟨_, heap_setCell_same _ _ _ _ _ _ h1, by simp [h2], by rw [Array.getElem?_setIfInBounds_ne ho]; exact h3⟩
theorem RulesAt.below {w w' : World} {p : Nat} {d : Value} (h : RulesAt w p d) (hb : Below w.heap.size w w') : RulesAt w' p d := by
  obtain ⟨C, h1, h2, h3⟩ := h.blk
  exact ⟨C, (hb.block p h.lt).trans h1, h2, h3⟩

def NewPost (w : World) (d : Value) (e : Ending) (w' : World) : Prop :=
  e = .returned (.pointer (some ⟨w.heap.size, 0, none⟩)) ∧ RulesAt w' w.heap.size d ∧ Below w.heap.size w w'

set_option maxHeartbeats 2000000 in
theorem new6 (w : World) (a : Option Addr) (n c : Nat) :
    Calls Try.prog 6 #[.slice a n c, .slice none 0 0, .int .i64 0, .int .i64 1, .map none, .slice none 0 0, .slice none 0 0, .int .i64 0, .slice none 0 0, .map none] w (NewPost w (.slice a n c)) := by
  go_enter Try.func6, Try.ntmps6
  go_wp2
  go_ret
  exact ⟨rfl, ⟨_, heap_alloc_new _ _, rfl, rfl⟩, (Below.refl _ w).alloc (Nat.le_refl _) _⟩

set_option maxHeartbeats 2000000 in
theorem fair7 (w : World) (p : Nat) (a : Option Addr) (n c : Nat) (b : Bool) (h : RulesAt w p (.slice a n c)) (hb : a.isNone = b) :
    Calls Try.prog 7 #[.pointer (some ⟨p, 0, none⟩)] w fun e w' => e = .returned (.bool b) ∧ w' = w := by
  have hd := h.deal
  have hnil := fun w => Lib.run_eql_slice_nil (P := Try.prog) w 24 25 a n c 0 0 Try.underlying24
  clear h
  subst hb
  cases a
  all_goals
    go_enter Try.func7, Try.ntmps7
    go_wp2
    go_ret
    exact ⟨rfl, rfl⟩

theorem deal9 (w : World) (p : Nat) (a : Option Addr) (n c : Nat) (h : RulesAt w p (.slice a n c)) :
    Calls Try.prog 9 #[.pointer (some ⟨p, 0, none⟩)] w fun e w' => e = .returned (.slice a n c) ∧ w' = w := by
  have hd := h.deal
  clear h
  go_enter Try.func9, Try.ntmps9
  go_wp2
  go_ret
  exact ⟨rfl, rfl⟩

def ClearPost (w : World) (p : Nat) (d : Value) (e : Ending) (w' : World) : Prop :=
  e = .returned (.tuple #[]) ∧ RulesAt w' p d ∧ ∀ B, B ≤ p → Below B w w'

set_option maxHeartbeats 2000000 in
theorem clear10 (w : World) (p : Nat) (d : Value) (h : RulesAt w p d) : Calls Try.prog 10 #[.pointer (some ⟨p, 0, none⟩)] w (ClearPost w p d) := by
  have hmm := @run_makeMap Try.prog
  obtain ⟨⟨u1, c1⟩, f1⟩ := h.some 20 (by omega)
  obtain ⟨⟨u2, c2⟩, f2⟩ := h.some 21 (by omega)
  obtain ⟨⟨u3, c3⟩, f3⟩ := h.some 22 (by omega)
  obtain ⟨⟨u4, c4⟩, f4⟩ := h.some 24 (by omega)
  obtain ⟨⟨u5, c5⟩, f5⟩ := h.some 25 (by omega)
  have hp := h.lt
  have H : Hid (RulesAt w p d) := h
  clear h
  go_enter Try.func10, Try.ntmps10
  go_wp2
  go_end0
  refine ⟨rfl, ?_, fun B hB => ?_⟩
  · exact ((((((H.out.set 20 (by omega) _).set 21 (by omega) _).set 22 (by omega) _).set 24 (by omega) _).set 25 (by omega) _).alloc _).alloc _
  · have hz : B ≤ w.heap.size := by omega
    refine Below.alloc (Below.alloc (Below.setCell (Below.setCell (Below.setCell (Below.setCell (Below.setCell (Below.refl _ _) ?_ _) ?_ _) ?_ _) ?_ _) ?_ _) ?_ _) ?_ _
    all_goals first | exact hB | (simp only [World.size_setCell, World.size_alloc]; omega)

theorem clear8 (w : World) (p : Nat) (d : Value) (h : RulesAt w p d) : Calls Try.prog 8 #[.pointer (some ⟨p, 0, none⟩)] w (ClearPost w p d) := by
  have HC := clear10 w p d h
  clear h
  go_enter Try.func8, Try.ntmps8
  go_wp2_with fail
  refine HC.mono ?_
  rintro e w1 ⟨rfl, h1, h2⟩
  go_wp2
  go_end0
  exact ⟨rfl, h1, h2⟩

def SomeBool (w : World) (e : Ending) (w' : World) : Prop := w' = w ∧ ∃ b, e = .returned (.bool b)

theorem bytes4 (w : World) (a : Option Addr) (len cap : Nat) (hl : len ≤ 9223372036854775807) : Calls Try.prog 4 #[.slice a len cap] w (SomeBool w) := by
  by_cases h : len ≤ 1048576
  all_goals
    go_enter Try.func4, Try.ntmps4
    go_wp2
    go_ret
    exact ⟨rfl, _, rfl⟩

set_option maxHeartbeats 2000000 in
theorem deal5 (w : World) (b0 off len cap : Nat) (zs : List Int) (hl : len ≤ 65536) (hc : ∀ i, i < len → w.cell? ⟨b0, off + i, none⟩ = some (.int .i64 (zs.getD i 0))) : Calls Try.prog 5 #[.slice (some ⟨b0, off, none⟩) len cap] w (SomeBool w) := by
  by_cases h4 : len < 4
  · go_enter Try.func5, Try.ntmps5
    go_wp2
    go_ret
    exact ⟨rfl, _, rfl⟩
  by_cases h8 : len > 8
  · go_enter Try.func5, Try.ntmps5
    go_wp2
    go_ret
    exact ⟨rfl, _, rfl⟩
  have HC : Hid (∀ i, i < len → w.cell? ⟨b0, off + i, none⟩ = some (.int .i64 (zs.getD i 0))) := hc
  clear hc
  go_enter Try.func5, Try.ntmps5
  go_wp2
  go_loop [3, 4] (fun t i => ∃ k n : Nat, k ≤ len ∧ i = .int .i64 k ∧ t = .int .i64 n ∧ n ≤ k) (fun _ i => len - (intOf i).toNat)
  case atStart => exact ⟨0, 0, Nat.zero_le _, rfl, rfl, Nat.le_refl _⟩
  case round =>
    obtain ⟨k, n, hk, rfl, rfl, hn⟩ := hrel
    by_cases hlt : k < len
    · have c0 := HC.out k hlt
      obtain ⟨v, hv⟩ : ∃ v, v = zs.getD k 0 := ⟨_, rfl⟩
      rw [← hv] at c0
      clear hv
      cases e2 : (v == 2)
      · cases e1 : (v != 1)
        · go_wp2
          go_round
          case rel => exact ⟨k + 1, n, by omega, by go_num, by go_num, by omega⟩
          case measure => simp [intOf]; omega
        · go_wp2
          go_ret
          exact ⟨rfl, _, rfl⟩
      · go_wp2
        go_round
        case rel => exact ⟨k + 1, n + 1, by omega, by go_num, by go_num, by omega⟩
        case measure => simp [intOf]; omega
    · by_cases n1 : 1 ≤ n
      · by_cases n2 : n ≤ 2
        · go_wp2
          go_ret
          exact ⟨rfl, _, rfl⟩
        · go_wp2
          go_ret
          exact ⟨rfl, _, rfl⟩
      · go_wp2
        go_ret
        exact ⟨rfl, _, rfl⟩
end Go.Proofs.Qxb6614034a
