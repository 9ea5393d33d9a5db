/-
  zzCloneStrings (6), the two length checks (5, 12) BY THEIR CONTRACTS.
-/
import Derived.Test.Qxb6613560aFmtMake
namespace Go.Proofs.Qxb6613560aFmt
open Go.RowKit

/-- The keys as they came in. -/
def StrsIn (w : World) (a : Option Addr) (len : Nat) (ks : List ByteArray) : Prop :=
  ks.length = len ∧ len ≤ 9223372036854775807 ∧ (∀ j, (ks.getD j ByteArray.empty).size ≤ 9223372036854775807) ∧ ((a = none ∧ len = 0) ∨ ∃ x, a = some x ∧ ∀ i, i < len → w.cell? (x.add i) = some (.string (ks.getD i ByteArray.empty)))

theorem strs_at {w : World} {a : Option Addr} {len : Nat} {ks : List ByteArray} (h : StrsIn w a len ks) (hp : 0 < len) :
    ∃ b off, a = some ⟨b, off, none⟩ ∧ b < w.heap.size ∧ ∀ j, j < len → w.cell? ⟨b, off + j, none⟩ = some (.string (ks.getD j ByteArray.empty)) := by
  obtain ⟨_, _, _, ⟨_, h2⟩ | ⟨x, rfl, h2⟩⟩ := h
  · omega
  · obtain ⟨b, off, spot⟩ := x
    have hspot : spot = none := by simpa [Addr.add] using World.cell?_spot (h2 0 hp)
    subst hspot
    refine ⟨b, off, rfl, ?_, fun j hj => by rw [← Go.WideShapes.add_plain]; exact h2 j hj⟩
    exact World.block_lt_of_cell? w _ (h2 0 hp)

/-- What the length checks say: nothing is turned; where they say yes every key is short. -/
def BytesPost (w : World) (len : Nat) (ks : List ByteArray) (e : Ending) (w' : World) : Prop := w' = w ∧ ∃ b, e = .returned (.bool b) ∧ (b = true → ∀ j, j < len → (ks.getD j ByteArray.empty).size ≤ 1048576)

set_option maxHeartbeats 1000000 in
theorem bytes5 (w : World) (a : Option Addr) (len cap : Nat) (ks : List ByteArray) (a1 : Option Addr) (len1 cap1 : Nat) (key : ByteArray) (h : StrsIn w a len ks) (hl1 : len1 ≤ 9223372036854775807) (hk : key.size ≤ 9223372036854775807) :
    Calls Tryf.prog 5 #[.slice a len cap, .slice a1 len1 cap1, .string key] w (BytesPost w len ks) := by
  have hll := h.2.1
  have H : Hid (StrsIn w a len ks) := h
  clear h
  go_enter Tryf.func5, Tryf.ntmps5
  go_wp2
  · go_ret
    exact ⟨rfl, _, rfl, fun h => by cases h⟩
  · go_loop [7, 8] (fun m i => ∃ k n : Nat, k ≤ len ∧ i = .int .i64 k ∧ m = .int .i64 n ∧ n ≤ 1048576 ∧ ∀ j, j < k → (ks.getD j ByteArray.empty).size ≤ 1048576) (fun _ i => len - (intOf i).toNat)
    case atStart => exact ⟨0, len, Nat.zero_le _, rfl, by go_num, by omega, fun j hj => absurd hj (by omega)⟩
    case round =>
      obtain ⟨k, n, hk, rfl, rfl, hn, hne⟩ := hrel
      have HN : Hid (∀ j, j < k → (ks.getD j ByteArray.empty).size ≤ 1048576) := hne
      clear hne
      by_cases hlt : k < len
      · obtain ⟨b, off, rfl, hb, hc⟩ := strs_at H.out (by omega)
        obtain ⟨s, hs⟩ : ∃ s, s = ks.getD k ByteArray.empty := ⟨_, rfl⟩
        have c0 : w.cell? ⟨b, off + k, none⟩ = some (.string s) := by rw [hs]; exact hc k hlt
        have hsz : s.size ≤ 9223372036854775807 := by rw [hs]; exact H.out.2.2.1 k
        have HSK : Hid (s = ks.getD k ByteArray.empty) := hs
        clear hs hc
        by_cases h1 : s.size ≤ 1048576
        · by_cases h2 : n + s.size ≤ 1048576
          · go_wp2
            go_round
            case rel =>
              refine ⟨k + 1, n + s.size, by omega, by go_num, by go_num, h2, fun j hj => ?_⟩
              by_cases hjk : j < k
              · exact HN.out j hjk
              · have : j = k := by omega
                subst this
                rw [← HSK.out]
                exact h1
            case measure => simp [intOf]; omega
          · go_wp2
            go_ret
            exact ⟨rfl, _, rfl, fun h => by cases h⟩
        · go_wp2
          go_ret
          exact ⟨rfl, _, rfl, fun h => by cases h⟩
      · have HT : Hid (∀ j, j < len → (ks.getD j ByteArray.empty).size ≤ 1048576) := fun j hj => HN.out j (by omega)
        go_wp2
        all_goals
          go_ret
          exact ⟨rfl, _, rfl, fun _ => HT.out⟩

set_option maxHeartbeats 1000000 in
theorem bytes12 (w : World) (a : Option Addr) (len cap : Nat) (ks : List ByteArray) (a1 : Option Addr) (len1 cap1 : Nat) (k1 k2 : ByteArray) (h : StrsIn w a len ks) (hl1 : len1 ≤ 9223372036854775807) (hk1 : k1.size ≤ 9223372036854775807) (hk2 : k2.size ≤ 9223372036854775807) :
    Calls Tryf.prog 12 #[.slice a len cap, .slice a1 len1 cap1, .string k1, .string k2] w (BytesPost w len ks) := by
  have hll := h.2.1
  have H : Hid (StrsIn w a len ks) := h
  clear h
  go_enter Tryf.func12, Tryf.ntmps12
  go_wp2
  · go_ret
    exact ⟨rfl, _, rfl, fun h => by cases h⟩
  · go_loop [9, 10] (fun m i => ∃ k n : Nat, k ≤ len ∧ i = .int .i64 k ∧ m = .int .i64 n ∧ n ≤ 1048576 ∧ ∀ j, j < k → (ks.getD j ByteArray.empty).size ≤ 1048576) (fun _ i => len - (intOf i).toNat)
    case atStart => exact ⟨0, len, Nat.zero_le _, rfl, by go_num, by omega, fun j hj => absurd hj (by omega)⟩
    case round =>
      obtain ⟨k, n, hk, rfl, rfl, hn, hne⟩ := hrel
      have HN : Hid (∀ j, j < k → (ks.getD j ByteArray.empty).size ≤ 1048576) := hne
      clear hne
      by_cases hlt : k < len
      · obtain ⟨b, off, rfl, hb, hc⟩ := strs_at H.out (by omega)
        obtain ⟨s, hs⟩ : ∃ s, s = ks.getD k ByteArray.empty := ⟨_, rfl⟩
        have c0 : w.cell? ⟨b, off + k, none⟩ = some (.string s) := by rw [hs]; exact hc k hlt
        have hsz : s.size ≤ 9223372036854775807 := by rw [hs]; exact H.out.2.2.1 k
        have HSK : Hid (s = ks.getD k ByteArray.empty) := hs
        clear hs hc
        by_cases h1 : s.size ≤ 1048576
        · by_cases h2 : n + s.size ≤ 1048576
          · go_wp2
            go_round
            case rel =>
              refine ⟨k + 1, n + s.size, by omega, by go_num, by go_num, h2, fun j hj => ?_⟩
              by_cases hjk : j < k
              · exact HN.out j hjk
              · have : j = k := by omega
                subst this
                rw [← HSK.out]
                exact h1
            case measure => simp [intOf]; omega
          · go_wp2
            go_ret
            exact ⟨rfl, _, rfl, fun h => by cases h⟩
        · go_wp2
          go_ret
          exact ⟨rfl, _, rfl, fun h => by cases h⟩
      · have HT : Hid (∀ j, j < len → (ks.getD j ByteArray.empty).size ≤ 1048576) := fun j hj => HN.out j (by omega)
        go_wp2
        all_goals
          go_ret
          exact ⟨rfl, _, rfl, fun _ => HT.out⟩

set_option maxHeartbeats 1000000 in
theorem clone_any (w : World) (a : Option Addr) (len cap : Nat) (ks : List ByteArray) (hfit : len ≤ 65536) (h : StrsIn w a len ks) :
    Calls Tryf.prog 6 #[.slice a len cap] w fun e w' => ∃ a' c', e = .returned (.slice a' len c') ∧ KeysAt w' (.slice a' len c') ks ∧ Below w.heap.size w w' := by
  obtain ⟨i0, hi, hz0, hz1, hz2⟩ := info_parts Tryf.info9
  cases a with
  | none =>
    obtain ⟨h1, _, _, ⟨_, rfl⟩ | ⟨x, hx, _⟩⟩ := h
    · have hks : ks = [] := List.length_eq_zero_iff.1 h1
      subst hks
      clear h1
      have hnil := fun w => Lib.run_eql_slice_nil (P := Tryf.prog) w 22 9 none 0 cap 0 0 Tryf.underlying22
      go_enter Tryf.func6, Tryf.ntmps6
      go_wp2
      go_ret
      exact ⟨_, _, rfl, Or.inl ⟨rfl, rfl⟩, Below.refl _ _⟩
    · cases hx
  | some x =>
    have H : Hid (StrsIn w (some x) len ks) := h
    clear h
    have hnil := fun w => Lib.run_eql_slice_nil (P := Tryf.prog) w 22 9 (some x) len cap 0 0 Tryf.underlying22
    go_enter Tryf.func6, Tryf.ntmps6
    go_wp2_with (at_make; refine wpList_make_full _ rfl (.tmp 8) (.tmp 8) 22 rfl w.heap.size 9 i0 (.string ⟨#[]⟩) 1 Tryf.underlying22 hi hz0 hz1 .i64 .i64 _ _ len rfl rfl rfl rfl (by rw [hz2]; omega) (by unfold maxLen; omega) (Nat.le_refl _) ?_; intro wm hown hgrow)
    go_loopw [4] (fun i wr => ∃ k : Nat, ∃ xs : List Value, k ≤ len ∧ i = .int .i64 k ∧ wr.ownsRow w.heap.size 9 1 (.slice (some ⟨w.heap.size, 0, none⟩) len len) len xs ∧
        (∀ j, j < k → xs[j]? = some (.string (ks.getD j ByteArray.empty))) ∧ Below w.heap.size w wr) (fun i _ => len - (intOf i).toNat)
    case atStart => exact ⟨0, _, Nat.zero_le _, rfl, hown, fun j hj => absurd hj (by omega), (Below.refl _ w).grown hgrow (Nat.le_refl _) (fun _ h => by cases h)⟩
    case round =>
      obtain ⟨k, xs, hk, rfl, hw, hx, hbel⟩ := hrel
      clear hown hgrow hnil
      by_cases hlt : k < len
      · obtain ⟨b, off, hxe, hb, hc⟩ := strs_at H.out (by omega)
        simp only [Option.some.injEq] at hxe
        subst hxe
        obtain ⟨s, hs⟩ : ∃ s, s = ks.getD k ByteArray.empty := ⟨_, rfl⟩
        have c0 : wr.cell? ⟨b, off + k, none⟩ = some (.string s) := by rw [hs]; exact (hbel.cell (p := ⟨b, off + k, none⟩) hb).trans (hc k hlt)
        have hxl : xs.length = len * 1 := hw.1
        obtain ⟨u, hu⟩ : ∃ u, wr.cell? ⟨w.heap.size, k, none⟩ = some u := by
          rw [hw.cellAt k (by omega)]
          exact ⟨xs[k], by simp [show k < xs.length by omega]⟩
        have hf := hw.frozenAt k
        have HW : Hid (wr.ownsRow w.heap.size 9 1 (.slice (some ⟨w.heap.size, 0, none⟩) len len) len xs ∧ (∀ j, j < k → xs[j]? = some (.string (ks.getD j ByteArray.empty))) ∧ Below w.heap.size w wr ∧ s = ks.getD k ByteArray.empty) := ⟨hw, hx, hbel, hs⟩
        clear hw hx hbel hs hc
        go_wp2
        go_roundw
        case rel =>
          obtain ⟨hw, hx, hbel, hs⟩ := HW.out
          refine ⟨k + 1, xs.set k (.string s), by omega, by go_num, (hw.stored k (.string s)).1, fun j hj => ?_, hbel.setCell (Nat.le_refl _) _⟩
          by_cases hjk : j = k
          · subst hjk
            rw [List.getElem?_set_self (by omega), hs]
          · rw [List.getElem?_set_ne (by omega)]; exact hx j (by omega)
        case measure => simp [intOf]; omega
      · have HW : Hid (wr.ownsRow w.heap.size 9 1 (.slice (some ⟨w.heap.size, 0, none⟩) len len) len xs ∧ (∀ j, j < len → xs[j]? = some (.string (ks.getD j ByteArray.empty))) ∧ Below w.heap.size w wr) := ⟨hw, fun j hj => hx j (by omega), hbel⟩
        clear hw hx hbel
        go_wp2
        go_ret
        obtain ⟨hw, hx, hbel⟩ := HW.out
        obtain ⟨_, hv⟩ := owned_block hw
        have hln := H.out.1
        refine ⟨_, _, rfl, Or.inr ⟨w.heap.size, len, by rw [hln], blk_lt hv, fun j hj => ?_⟩, hbel⟩
        rw [cell_of_row _ _ _ _ _ _ hv]
        have := hx j (by omega)
        simpa using this
end Go.Proofs.Qxb6613560aFmt
