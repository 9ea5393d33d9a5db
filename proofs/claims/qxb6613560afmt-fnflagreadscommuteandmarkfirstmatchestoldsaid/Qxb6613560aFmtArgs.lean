/-
  FROM THE ARGUMENTS AS DATA TO WHAT THE WALKS ASK.
-/
import Derived.Test.Qxb6613560aFmtLawB
import Derived.OpenShut
import Derived.ShutString
import Derived.ChangeOld
import Derived.Below
import Derived.SliceStrings
import Derived.ChangeSlices
import Derived.ChangeSame
import Derived.ChangeMaps5
import Derived.JoinedOf
import Derived.Carry
import Derived.Stop.JoinedAt
import Derived.Stop.JoinedTold
import Derived.SizedLaws
import Derived.SevenToldRow
import Derived.Test.Qxb6613560aFmtCards
namespace Go.Proofs.Qxb6613560aFmt
open Go.ChangeShapes Go.WideShapes Go.ChangeAt Go.RowKit Go.Kit
open Go.Extern.Stop Go.Stop Go.Extern

theorem Tryf.own : ownKnob Tryf.prog.godebug = none := by kernel_rfl
theorem Tryf.laidOut : laidOutB Tryf.pinned.checked.prog = true := by kernel_rfl
theorem Tryf.cells9 : Tryf.prog.cellsOf 9 = 1 := by kernel_rfl
theorem Tryf.cells5 : Tryf.prog.cellsOf 5 = 1 := by kernel_rfl

theorem strs_of {W : World} {a : Addr} {len cap : Nat} {ss : List ByteArray} (hl : len ≤ cap) (hm : cap ≤ maxLen) (hz : ss.length = cap) (hc : ∀ i, i < ss.length → W.cell? (a.add i) = some (.string (ss.getD i ByteArray.empty))) (hs : ∀ s ∈ ss, s.size ≤ maxLen) :
    StrsIn W (some a) len (ss.take len) := by
  have hlen : (ss.take len).length = len := by rw [List.length_take]; omega
  have hg : ∀ j, j < len → (ss.take len).getD j ByteArray.empty = ss.getD j ByteArray.empty := fun j hj => by
    simp [List.getD, List.getElem?_take_of_lt hj]
  refine ⟨hlen, by unfold maxLen at hm; omega, fun j => ?_, Or.inr ⟨a, rfl, fun i hi => ?_⟩⟩
  · by_cases hj : j < len
    · rw [hg j hj]
      have hj' : j < ss.length := by omega
      have := hs ss[j] (List.getElem_mem hj')
      unfold maxLen at this
      simpa [List.getD, hj'] using this
    · have : (ss.take len).getD j ByteArray.empty = ByteArray.empty := by
        rw [List.getD, List.getElem?_eq_none (by omega)]; rfl
      rw [this]; decide
  · rw [hg i hi]; exact hc i (by omega)

theorem strs_nil (W : World) : StrsIn W none 0 [] := ⟨rfl, by omega, fun j => by show ByteArray.empty.size ≤ _; decide, Or.inl ⟨rfl, rfl⟩⟩

theorem kinds_of {W : World} {a : Addr} {len cap : Nat} {zs : List Int} (hl : len ≤ cap) (hm : cap ≤ maxLen) (hz : zs.length = cap) (hc : ∀ i, i < zs.length → W.cell? (a.add i) = some (.int .u8 (zs.getD i 0))) :
    KindIn W (some a) len (zs.take len) := by
  refine ⟨by rw [List.length_take]; omega, by unfold maxLen at hm; omega, Or.inr ⟨a, rfl, fun i hi => ?_⟩⟩
  rw [hc i (by omega)]
  simp [List.getD, List.getElem?_take_of_lt hi]

theorem kinds_nil (W : World) : KindIn W none 0 [] := ⟨rfl, by omega, Or.inl ⟨rfl, rfl⟩⟩

theorem Tryf.stopKnobs : Tryf.pinned.checked.prog.stopKnobs = [] := by kernel_rfl
theorem Tryf.quiet (os : Os) : Stop.quiet Tryf.pinned.checked.prog os := by
  intro k hk
  rw [Tryf.stopKnobs] at hk
  cases hk
end Go.Proofs.Qxb6613560aFmt
