/-
  THE PLAIN WORDS OF THESE LAWS: the first index of a key in a list of keys. No Go in sight.
-/
import Derived.WalkKit
namespace Go.Proofs.Qxb6613560aFmt

/-- The least i with ks[i] = key. -/
def idxOf (ks : List ByteArray) (key : ByteArray) : Option Nat := ks.findIdx? (fun k => decide (k = key))
/-- The same as Go tells it: -1 where there is none. -/
def idxI (ks : List ByteArray) (key : ByteArray) : Int := match idxOf ks key with | some i => (i : Int) | none => -1

theorem idx_some {ks : List ByteArray} {key : ByteArray} {i : Nat} (hi : i < ks.length) (he : ks.getD i ByteArray.empty = key) (hl : ∀ j, j < i → ks.getD j ByteArray.empty ≠ key) : idxOf ks key = some i := by
  unfold idxOf
  rw [List.findIdx?_eq_some_iff_getElem]
  refine ⟨hi, ?_, fun j hj => ?_⟩
  · simp [List.getD, hi] at he; simp [he]
  · have := hl j hj
    simp [List.getD, show j < ks.length by omega] at this
    simp [this]
theorem idx_none {ks : List ByteArray} {key : ByteArray} (hl : ∀ j, j < ks.length → ks.getD j ByteArray.empty ≠ key) : idxOf ks key = none := by
  unfold idxOf
  rw [List.findIdx?_eq_none_iff]
  intro k hk
  obtain ⟨j, hj, rfl⟩ := List.mem_iff_getElem.1 hk
  have := hl j hj
  simp [List.getD, hj] at this
  simp [this]
theorem idx_lt {ks : List ByteArray} {key : ByteArray} {i : Nat} (h : idxOf ks key = some i) : i < ks.length := by
  unfold idxOf at h
  exact (List.findIdx?_eq_some_iff_getElem.1 h).1
theorem idxI_some {ks : List ByteArray} {key : ByteArray} {i : Nat} (h : idxOf ks key = some i) : idxI ks key = (i : Int) := by unfold idxI; rw [h]
theorem idxI_none {ks : List ByteArray} {key : ByteArray} (h : idxOf ks key = none) : idxI ks key = -1 := by unfold idxI; rw [h]

end Go.Proofs.Qxb6613560aFmt
