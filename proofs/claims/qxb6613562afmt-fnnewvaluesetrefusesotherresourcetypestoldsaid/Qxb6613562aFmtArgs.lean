/-
  FROM THE ARGUMENTS AS DATA TO WHAT THE WALK ASKS.
-/
import Derived.Test.Qxb6613562aFmtLaw
import Derived.OpenShut
import Derived.ShutString
import Derived.ChangeOld
import Derived.Below
import Derived.SliceStrings
import Derived.ChangeSlices
import Derived.ChangeSame
import Derived.ChangeMaps5
import Derived.JoinedOf
import Derived.Carry
import Derived.Stop.JoinedAt
import Derived.Stop.JoinedTold
import Derived.SizedLaws
import Derived.SevenToldRow
import Derived.Deep.Slices
import Derived.Lib.SmallJoins
import Derived.Test.Qxb6613562aFmtCards
namespace Go.Proofs.Qxb6613562aFmt
open Go.ChangeShapes Go.WideShapes Go.ChangeAt Go.RowKit Go.Kit Go.Deep Go.Joins
open Go.Extern.Stop Go.Stop Go.Extern

theorem Tryf.own : ownKnob Tryf.prog.godebug = none := by kernel_rfl
theorem Tryf.laidOut : laidOutB Tryf.pinned.checked.prog = true := by kernel_rfl
theorem Tryf.cells9 : Tryf.prog.cellsOf 9 = 1 := by kernel_rfl
theorem Tryf.cells4 : Tryf.prog.cellsOf 4 = 1 := by kernel_rfl
theorem Tryf.cells41 : Tryf.prog.cellsOf 41 = 4 := by kernel_rfl

theorem list4 {α : Type} {cs : List α} (h : cs.length = 4) : ∃ c0 c1 c2 c3, cs = [c0, c1, c2, c3] := by
  match cs, h with
  | [c0, c1, c2, c3], _ => exact ⟨c0, c1, c2, c3, rfl⟩

/-- One row a place: a list of them. -/
theorem list_of {p : Nat → MRow → Prop} : ∀ n : Nat, (∀ i, i < n → ∃ r, p i r) → ∃ rs : List MRow, rs.length = n ∧ ∀ i r, rs[i]? = some r → p i r
  | 0, _ => ⟨[], rfl, fun i r h => by simp at h⟩
  | n + 1, h => by
    obtain ⟨rs, h1, h2⟩ := list_of n (fun i hi => h i (by omega))
    obtain ⟨r, hr⟩ := h n (by omega)
    refine ⟨rs ++ [r], by simp [h1], fun i x hx => ?_⟩
    by_cases hi : i < n
    · rw [List.getElem?_append_left (by omega)] at hx
      exact h2 i x hx
    · have hl : i < n + 1 := by
        have := (List.getElem?_eq_some_iff.1 hx).1
        simpa [h1] using this
      obtain rfl : i = n := by omega
      rw [List.getElem?_append_right (by omega), h1, Nat.sub_self] at hx
      simp only [List.getElem?_cons_zero, Option.some.injEq] at hx
      subst hx
      exact hr

theorem rows_of {H : Type} {enc : TypeId × Value → H} {W : World} {base : Nat} {spare : Nat → Bool} {held : Bool} {fuel : Nat} {a : Option Addr} {len cap : Nat} {x : DataW H × List MemPlace} (h : DataW.trod enc Tryf.prog W base spare held fuel 22 [.slice a len cap] = some x) : ∃ rs, RowsIn W a len rs := by
  rcases open_slice Tryf.underlying22 h with ⟨hcs, _⟩ | ⟨x', l, c, m, n, D, Pl, hcs, _, hl, hm, hmm, _, hx⟩
  · simp only [List.cons.injEq, Value.slice.injEq, and_true] at hcs
    obtain ⟨rfl, rfl, rfl⟩ := hcs
    exact ⟨[], rfl, by omega, fun hp => absurd hp (by omega)⟩
  · simp only [List.cons.injEq, Value.slice.injEq, and_true] at hcs
    obtain ⟨rfl, rfl, rfl⟩ := hcs
    have hlm : len ≤ m := by rw [hmm]; split <;> omega
    have each : ∀ i, i < len → ∃ r : MRow, W.cell? (x'.add (i * 4)) = some (.string r.name) ∧ W.cell? (x'.add (i * 4 + 1)) = some (.string r.value) ∧ W.cell? (x'.add (i * 4 + 2)) = some (.bool r.asB) ∧ W.cell? (x'.add (i * 4 + 3)) = some (.bool r.asA) ∧ r.name.size ≤ maxLen ∧ r.value.size ≤ maxLen := by
      intro i hi
      obtain ⟨cs', h1, h2⟩ := hx i (by omega)
      rw [Tryf.cells41] at h1
      obtain ⟨_, hlen, hcell⟩ := World.cells?_some h1
      obtain ⟨v0, v1, v2, v3, rfl⟩ := list4 hlen
      obtain ⟨y0, y1, y2, y3, k, _, _, g0, g1, g2, g3⟩ := trod_struct4 Tryf.underlying41 h2
      simp [Tryf.cells9, Tryf.cells4] at g0 g1 g2 g3
      have e0 := hcell 0 (by omega)
      have e1 := hcell 1 (by omega)
      have e2 := hcell 2 (by omega)
      have e3 := hcell 3 (by omega)
      rw [add_add] at e0 e1 e2 e3
      obtain ⟨s0, q0, _, z0⟩ := DataW.trod_string Tryf.underlying9 g0
      obtain ⟨s1, q1, _, z1⟩ := DataW.trod_string Tryf.underlying9 g1
      obtain ⟨b2, q2, _⟩ := DataW.trod_bool Tryf.underlying4 g2
      obtain ⟨b3, q3, _⟩ := DataW.trod_bool Tryf.underlying4 g3
      simp only [List.cons.injEq, and_true] at q0 q1 q2 q3
      subst q0 q1 q2 q3
      exact ⟨⟨s0, s1, b2, b3⟩, by simpa using e0, by simpa using e1, by simpa using e2, by simpa using e3, z0, z1⟩
    obtain ⟨rs, hrl, hq⟩ := list_of len each
    unfold maxLen at hm hq
    refine ⟨rs, hrl, by omega, fun hp => ?_⟩
    obtain ⟨r0, hr0⟩ : ∃ r0, rs[0]? = some r0 := ⟨rs[0], by simp [hrl, hp]⟩
    obtain ⟨b, off, spot⟩ := x'
    have hspot : spot = none := by simpa [Addr.add] using World.cell?_spot (hq 0 r0 hr0).1
    subst hspot
    refine ⟨b, off, rfl, World.block_lt_of_cell? W _ (hq 0 r0 hr0).1, fun j r hj => ?_⟩
    obtain ⟨h0, h1, h2, h3, z0, z1⟩ := hq j r hj
    rw [add_plain] at h0 h1 h2 h3
    exact ⟨h0, by simpa [Nat.add_assoc] using h1, by simpa [Nat.add_assoc] using h2, by simpa [Nat.add_assoc] using h3, z0, z1⟩

theorem Tryf.stopKnobs : Tryf.pinned.checked.prog.stopKnobs = [] := by kernel_rfl
theorem Tryf.quiet (os : Os) : Stop.quiet Tryf.pinned.checked.prog os := by
  intro k hk
  rw [Tryf.stopKnobs] at hk
  cases hk
end Go.Proofs.Qxb6613562aFmt
