/-
  ZZnewFields (8), zzCloneStrings (6) BY THEIR CONTRACTS.
-/
import Derived.Test.Qxb6613560aFmtFlag
namespace Go.Proofs.Qxb6613560aFmt
open Go.RowKit

theorem Tryf.info36 : (Tryf.prog.info? 36).map (fun i => (i.zero, i.size, i.bytes)) = some (some (.agg #[.int .u8 0, .string ⟨#[]⟩]), 2, 24) := by kernel_rfl
theorem Tryf.info4 : (Tryf.prog.info? 4).map (fun i => (i.zero, i.size, i.bytes)) = some (some (.bool false), 1, 1) := by kernel_rfl
theorem Tryf.info9 : (Tryf.prog.info? 9).map (fun i => (i.zero, i.size, i.bytes)) = some (some (.string ⟨#[]⟩), 1, 16) := by kernel_rfl
theorem Tryf.info5 : (Tryf.prog.info? 5).map (fun i => (i.zero, i.size, i.bytes)) = some (some (.int .u8 0), 1, 1) := by kernel_rfl

/-- The kinds as a slice of bytes tells them. -/
def KindsAt (w : World) (dv : Value) (kd : List Int) : Prop :=
  (dv = .slice none 0 0 ∧ kd = []) ∨ ∃ D c, dv = .slice (some ⟨D, 0, none⟩) kd.length c ∧ D < w.heap.size ∧ ∀ j, j < kd.length → w.cell? ⟨D, j, none⟩ = some (.int .u8 (kd.getD j 0))

/-- A row that is owned whole: its block. -/
theorem owned_block {w : World} {base : Nat} {e : TypeId} {size : Nat} {g n : Nat} {xs : List Value} (h : w.ownsRow base e size (.slice (some ⟨g, 0, none⟩) n n) n xs) : base ≤ g ∧ w.heap[g]? = some (.cells xs.toArray e (0, 0)) := by
  rcases h.2 with ⟨h', _⟩ | ⟨g', cap', cur, h', hb, hg, _, _, hs, htake⟩
  · simp at h'
  · simp only [Value.slice.injEq, Option.some.injEq, Addr.mk.injEq, and_true, true_and] at h'
    obtain ⟨rfl, rfl⟩ := h'
    refine ⟨hb, ?_⟩
    rw [hg, ← htake, List.take_of_length_le (by simp; omega)]

/-- What ZZnewFields leaves. -/
def NewPost (w : World) (kv : Value) (ks : List ByteArray) (kd : List Int) (e : Ending) (w' : World) : Prop :=
  ∃ F V U, e = .returned (.pointer (some ⟨F, 0, none⟩)) ∧ w.heap.size ≤ F ∧ w.heap.size ≤ V ∧ w.heap.size ≤ U ∧ FieldsAt w' F V U kv ks kd (List.replicate ks.length false) .nilIface ∧ Below w.heap.size w w'

/-- The end of ZZnewFields: the row of values is there, the row of marks is made, the fields are boxed. -/
theorem new_end {w wr wu : World} {kv : Value} {ks : List ByteArray} {kd : List Int} {a : Option Addr} {n cap : Nat} {xs : List Value} (hK : KeysAt w kv ks) (hkv : kv = .slice a n cap) (hn : n = ks.length)
    (hw : wr.ownsRow w.heap.size 36 2 (.slice (some ⟨w.heap.size, 0, none⟩) n n) n xs) (hx : ∀ j, j < n → xs[j * 2]? = some (.int .u8 (kd.getD j 0)) ∧ xs[j * 2 + 1]? = some (.string ⟨#[]⟩)) (hb : Below w.heap.size w wr)
    (hu : wu.ownsRow w.heap.size 4 1 (.slice (some ⟨wr.heap.size, 0, none⟩) n n) n (madeCells #[.bool false] n).toList) (hg : wr.grownBy wu none) :
    NewPost w kv ks kd (.returned (.pointer (some ⟨wu.heap.size, 0, none⟩))) (wu.alloc (.cells #[.slice a n cap, .slice (some ⟨w.heap.size, 0, none⟩) n n, .slice (some ⟨wr.heap.size, 0, none⟩) n n, .nilIface, .pointer none] 41)) := by
  obtain ⟨_, hv⟩ := owned_block hw
  obtain ⟨_, hU⟩ := owned_block hu
  have hvl : w.heap.size < wr.heap.size := blk_lt hv
  have hul : wr.heap.size < wu.heap.size := blk_lt hU
  have hb2 : Below w.heap.size w wu := hb.grown hg (by omega) (fun _ h => by cases h)
  have hb3 : Below w.heap.size w (wu.alloc (.cells #[.slice a n cap, .slice (some ⟨w.heap.size, 0, none⟩) n n, .slice (some ⟨wr.heap.size, 0, none⟩) n n, .nilIface, .pointer none] 41)) := hb2.alloc (by omega) _
  have hv2 : (wu.alloc (.cells #[.slice a n cap, .slice (some ⟨w.heap.size, 0, none⟩) n n, .slice (some ⟨wr.heap.size, 0, none⟩) n n, .nilIface, .pointer none] 41)).heap[w.heap.size]? = some (.cells xs.toArray 36 (0, 0)) := by
    rw [Below.heap_alloc _ _ _ (by omega), hg.block w.heap.size hvl (by simp)]; exact hv
  subst hn
  refine ⟨wu.heap.size, w.heap.size, wr.heap.size, rfl, by omega, Nat.le_refl _, by omega, ⟨?_, ?_, ?_, ?_, ?_, ⟨by omega, by omega⟩, by simp⟩, hb3⟩
  · rw [hkv]; exact heap_alloc_new _ _
  · exact hK.same hb3.size (fun K j _ hKl hs => (hb3.cell (p := ⟨K, j, none⟩) hKl).trans hs)
  · intro j hj
    obtain ⟨h1, h2⟩ := hx j hj
    exact ⟨by rw [cell_of_row _ _ _ _ _ _ hv2]; simpa using h1, by rw [cell_of_row _ _ _ _ _ _ hv2]; simpa using h2⟩
  · rw [Below.heap_alloc _ _ _ hul, hU, toList_madeCells_one]
    simp
  · simp; omega

set_option maxHeartbeats 2000000 in
theorem new_nil (w : World) (a : Option Addr) (cap : Nat) (hK : KeysAt w (.slice a 0 cap) []) : Calls Tryf.prog 8 #[.slice a 0 cap, .slice none 0 0] w (NewPost w (.slice a 0 cap) [] []) := by
  obtain ⟨i0, hi, hz0, hz1, hz2⟩ := info_parts Tryf.info36
  obtain ⟨i1, hi1, hy0, hy1, hy2⟩ := info_parts Tryf.info4
  have HK : Hid (KeysAt w (.slice a 0 cap) []) := hK
  clear hK
  go_enter Tryf.func8, Tryf.ntmps8
  go_wp2_with (at_make; refine wpList_make_full _ rfl (.tmp 8) (.tmp 8) 34 rfl w.heap.size 36 i0 (.agg #[.int .u8 0, .string ⟨#[]⟩]) 2 Tryf.underlying34 hi hz0 hz1 .i64 .i64 _ _ 0 rfl rfl rfl rfl (by omega) (by unfold maxLen; omega) (Nat.le_refl _) ?_; intro wm hown hgrow)
  refine wp_loop_rounds 1 ?_
  rw [rounds_succ]
  have HB : Hid (Below w.heap.size w wm) := (Below.refl _ w).grown hgrow (Nat.le_refl _) (fun _ h => by cases h)
  have hz := HB.out.size
  have HO : Hid (wm.ownsRow w.heap.size 36 2 (.slice (some ⟨w.heap.size, 0, none⟩) 0 0) 0 _) := hown
  clear hown hgrow
  go_wp2_with (at_make; refine wpList_make_full _ rfl (.tmp 27) (.tmp 27) 30 rfl w.heap.size 4 i1 (.bool false) 1 Tryf.underlying30 hi1 hy0 hy1 .i64 .i64 _ _ 0 rfl rfl rfl rfl (by omega) (by unfold maxLen; omega) hz ?_; intro wu hown hgrow)
  go_ret
  exact new_end HK.out rfl rfl HO.out (fun j hj => absurd hj (by omega)) HB.out (by simpa [Value.cells] using hown) hgrow

set_option maxHeartbeats 2000000 in
theorem new_any (w : World) (kv : Value) (ks : List ByteArray) (D c : Nat) (kd : List Int) (hfit : ks.length ≤ 65536) (hlen : kd.length = ks.length) (a : Option Addr) (n cap : Nat) (hn : n = ks.length) (hkv : kv = .slice a n cap) (hK : KeysAt w kv ks)
    (hD : D < w.heap.size) (hcell : ∀ j, j < kd.length → w.cell? ⟨D, j, none⟩ = some (.int .u8 (kd.getD j 0))) :
    Calls Tryf.prog 8 #[.slice a n cap, .slice (some ⟨D, 0, none⟩) n c] w (NewPost w kv ks kd) := by
  obtain ⟨i0, hi, hz0, hz1, hz2⟩ := info_parts Tryf.info36
  obtain ⟨i1, hi1, hy0, hy1, hy2⟩ := info_parts Tryf.info4
  have HC : Hid (∀ j, j < n → w.cell? ⟨D, j, none⟩ = some (.int .u8 (kd.getD j 0))) := fun j hj => hcell j (by omega)
  have HK : Hid (KeysAt w kv ks ∧ kv = .slice a n cap ∧ n = ks.length ∧ kd.length = ks.length) := ⟨hK, hkv, hn, hlen⟩
  have hnl : n ≤ 65536 := by omega
  clear hcell hK hkv hn hlen hfit
  go_enter Tryf.func8, Tryf.ntmps8
  go_wp2_with (at_make; refine wpList_make_full _ rfl (.tmp 8) (.tmp 8) 34 rfl w.heap.size 36 i0 (.agg #[.int .u8 0, .string ⟨#[]⟩]) 2 Tryf.underlying34 hi hz0 hz1 .i64 .i64 _ _ n rfl rfl rfl rfl (by rw [hz2]; omega) (by unfold maxLen; omega) (Nat.le_refl _) ?_; intro wm hown hgrow)
  go_loopw [12] (fun i wr => ∃ k : Nat, ∃ xs : List Value, k ≤ n ∧ i = .int .i64 k ∧ wr.ownsRow w.heap.size 36 2 (.slice (some ⟨w.heap.size, 0, none⟩) n n) n xs ∧
      (∀ j, j < k → xs[j * 2]? = some (.int .u8 (kd.getD j 0)) ∧ xs[j * 2 + 1]? = some (.string ⟨#[]⟩)) ∧ Below w.heap.size w wr) (fun i _ => n - (intOf i).toNat)
  case atStart => exact ⟨0, _, Nat.zero_le _, rfl, hown, fun j hj => absurd hj (by omega), (Below.refl _ w).grown hgrow (Nat.le_refl _) (fun _ h => by cases h)⟩
  case round =>
    obtain ⟨k, xs, hk, rfl, hw, hx, hbel⟩ := hrel
    clear hown hgrow
    by_cases hlt : k < n
    · have c0 : wr.cell? ⟨D, k, none⟩ = some (.int .u8 (kd.getD k 0)) := (hbel.cell (p := ⟨D, k, none⟩) hD).trans (HC.out k hlt)
      have hxl : xs.length = n * 2 := hw.1
      obtain ⟨u, hu⟩ : ∃ u, wr.cell? ⟨w.heap.size, k * 2, none⟩ = some u := by
        rw [hw.cellAt (k * 2) (by omega)]
        exact ⟨xs[k * 2], by simp [show k * 2 < xs.length by omega]⟩
      obtain ⟨u', hu'⟩ : ∃ u, wr.cell? ⟨w.heap.size, k * 2 + 1, none⟩ = some u := by
        rw [hw.cellAt (k * 2 + 1) (by omega)]
        exact ⟨xs[k * 2 + 1], by simp [show k * 2 + 1 < xs.length by omega]⟩
      have hf := hw.frozenAt (k * 2)
      have hf' := hw.frozenAt (k * 2 + 1)
      have HW : Hid (wr.ownsRow w.heap.size 36 2 (.slice (some ⟨w.heap.size, 0, none⟩) n n) n xs ∧ (∀ j, j < k → xs[j * 2]? = some (.int .u8 (kd.getD j 0)) ∧ xs[j * 2 + 1]? = some (.string ⟨#[]⟩)) ∧ Below w.heap.size w wr) := ⟨hw, hx, hbel⟩
      clear hw hx hbel
      go_wp2
      go_roundw
      case rel =>
        obtain ⟨hw, hx, hbel⟩ := HW.out
        refine ⟨k + 1, (xs.set (k * 2) (.int .u8 (kd[k]?.getD 0))).set (k * 2 + 1) (.string ⟨#[]⟩), by omega, by go_num, ?_, fun j hj => ?_, (hbel.setCell (Nat.le_refl _) _).setCell (Nat.le_refl _) _⟩
        · exact ((hw.stored (k * 2) (.int .u8 (kd[k]?.getD 0))).1.stored (k * 2 + 1) (.string ⟨#[]⟩)).1
        · by_cases hjk : j = k
          · subst hjk
            constructor
            · rw [List.getElem?_set_ne (by omega), List.getElem?_set_self (by omega)]; simp [List.getD]
            · rw [List.getElem?_set_self (by simp; omega)]
          · obtain ⟨h1, h2⟩ := hx j (by omega)
            constructor
            · rw [List.getElem?_set_ne (by omega), List.getElem?_set_ne (by omega)]; exact h1
            · rw [List.getElem?_set_ne (by omega), List.getElem?_set_ne (by omega)]; exact h2
      case measure => simp [intOf]; omega
    · have hkn : k = n := by omega
      have HW : Hid (wr.ownsRow w.heap.size 36 2 (.slice (some ⟨w.heap.size, 0, none⟩) n n) n xs ∧ (∀ j, j < n → xs[j * 2]? = some (.int .u8 (kd.getD j 0)) ∧ xs[j * 2 + 1]? = some (.string ⟨#[]⟩)) ∧ Below w.heap.size w wr) := ⟨hw, fun j hj => hx j (by omega), hbel⟩
      have hz := hbel.size
      clear hw hx hbel hkn
      go_wp2_with (at_make; refine wpList_make_full _ rfl (.tmp 27) (.tmp 27) 30 rfl w.heap.size 4 i1 (.bool false) 1 Tryf.underlying30 hi1 hy0 hy1 .i64 .i64 _ _ n rfl rfl rfl rfl (by rw [hy2]; omega) (by unfold maxLen; omega) hz ?_; intro wu hown hgrow)
      go_ret
      obtain ⟨k1, k2, k3, k4⟩ := HK.out
      exact new_end k1 k2 k3 HW.out.1 HW.out.2.1 HW.out.2.2 (by simpa [Value.cells] using hown) hgrow
end Go.Proofs.Qxb6613560aFmt
