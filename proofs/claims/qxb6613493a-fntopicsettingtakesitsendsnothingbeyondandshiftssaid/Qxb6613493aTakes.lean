/-
  THE CONTRACT OF 'ZZtopicSettingTakes' (function 6) AND OF 'topicSetting.takes' (function 10), for every input.
-/
import Derived.Test.Qxb6613493aRows
import Derived.WalkKit
import Derived.ProofKit
namespace Go.Proofs.Qxb6613493a
open Go.RowKit

/-- What the setting over [l, m] answers at n. -/
def takesB (l m : Int) (nl : Bool) (n : Int) : Bool := (decide (n = -1) && nl) || (decide (l ≤ n) && decide (n ≤ m))

theorem takesB_yes {l m : Int} {nl : Bool} {n : Int} (h : (n = -1 ∧ nl = true) ∨ (l ≤ n ∧ n ≤ m)) : takesB l m nl n = true := by
  unfold takesB
  rcases h with ⟨h1, h2⟩ | ⟨h1, h2⟩ <;> simp [h1, h2]

theorem takesB_no {l m : Int} {nl : Bool} {n : Int} (h1 : n = -1 → nl = false) (h2 : n < l ∨ m < n) : takesB l m nl n = false := by
  unfold takesB
  have e1 : (decide (n = -1) && nl) = false := by
    by_cases h : n = -1
    · simp [h1 h]
    · simp [h]
  have e2 : (decide (l ≤ n) && decide (n ≤ m)) = false := by
    rcases h2 with h | h
    · simp; omega
    · simp; omega
  rw [e1, e2]; rfl

theorem takes_any (l m : Int) (nl : Bool) (n : Int) (w : World) :
    Calls Try.prog 6 #[.int .i64 l, .int .i64 m, .bool nl, .int .i64 n] w fun e w' => e = .returned (.bool (takesB l m nl n)) ∧ Grown w w' := by
  by_cases c1 : n = -1
  · subst c1
    cases nl
    · by_cases c2 : l ≤ -1
      · by_cases c3 : -1 ≤ m
        · have t := takesB_yes (l := l) (m := m) (nl := false) (n := -1) (Or.inr ⟨c2, c3⟩)
          go_enter Try.func6, Try.ntmps6
          go_wp2
          go_ret
          exact ⟨by first | rfl | (rw [t]; rfl), by repeat (first | exact Grown.refl _ | apply Grown.drew | apply Grown.alloc)⟩
        · have t := takesB_no (l := l) (m := m) (nl := false) (n := -1) (fun _ => rfl) (by omega)
          go_enter Try.func6, Try.ntmps6
          go_wp2
          go_ret
          exact ⟨by first | rfl | (rw [t]; rfl), by repeat (first | exact Grown.refl _ | apply Grown.drew | apply Grown.alloc)⟩
      · have t := takesB_no (l := l) (m := m) (nl := false) (n := -1) (fun _ => rfl) (by omega)
        go_enter Try.func6, Try.ntmps6
        go_wp2
        go_ret
        exact ⟨by first | rfl | (rw [t]; rfl), by repeat (first | exact Grown.refl _ | apply Grown.drew | apply Grown.alloc)⟩
    · have t := takesB_yes (l := l) (m := m) (nl := true) (n := -1) (Or.inl ⟨rfl, rfl⟩)
      go_enter Try.func6, Try.ntmps6
      go_wp2
      go_ret
      exact ⟨by first | rfl | (rw [t]; rfl), by repeat (first | exact Grown.refl _ | apply Grown.drew | apply Grown.alloc)⟩
  · have c1' : (n == -1) = false := by simpa using c1
    by_cases c2 : l ≤ n
    · by_cases c3 : n ≤ m
      · have t := takesB_yes (l := l) (m := m) (nl := nl) (n := n) (Or.inr ⟨c2, c3⟩)
        go_enter Try.func6, Try.ntmps6
        go_wp2
        go_ret
        exact ⟨by first | rfl | (rw [t]; rfl), by repeat (first | exact Grown.refl _ | apply Grown.drew | apply Grown.alloc)⟩
      · have t := takesB_no (l := l) (m := m) (nl := nl) (n := n) (fun h => absurd h c1) (by omega)
        go_enter Try.func6, Try.ntmps6
        go_wp2
        go_ret
        exact ⟨by first | rfl | (rw [t]; rfl), by repeat (first | exact Grown.refl _ | apply Grown.drew | apply Grown.alloc)⟩
    · have t := takesB_no (l := l) (m := m) (nl := nl) (n := n) (fun h => absurd h c1) (by omega)
      go_enter Try.func6, Try.ntmps6
      go_wp2
      go_ret
      exact ⟨by first | rfl | (rw [t]; rfl), by repeat (first | exact Grown.refl _ | apply Grown.drew | apply Grown.alloc)⟩

theorem grown_trans {a b c : World} (h : Grown a b) (k : Grown b c) : Grown a c :=
  ⟨World.keptBut_trans h.1 k.1, fun x => (k.2.1 x).trans (h.2.1 x), Nat.le_trans h.2.2 k.2.2⟩

/-- The same, told from an earlier world W on. -/
theorem takes_from {W w : World} (hG : Grown W w) (l m : Int) (nl : Bool) (n : Int) :
    Calls Try.prog 6 #[.int .i64 l, .int .i64 m, .bool nl, .int .i64 n] w fun e w' => e = .returned (.bool (takesB l m nl n)) ∧ Grown W w' :=
  (takes_any l m nl n w).mono fun _ _ h => ⟨h.1, grown_trans hG h.2⟩

end Go.Proofs.Qxb6613493a
