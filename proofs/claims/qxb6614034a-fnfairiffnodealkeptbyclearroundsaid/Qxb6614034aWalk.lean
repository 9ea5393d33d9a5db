/-
  THE LAW's WALK (function 3).
-/
import Derived.Test.Qxb6614034aBase
import Derived.Deep.QuietTactic
import Derived.BigQuiet
namespace Go.Proofs.Qxb6614034a
open Go.RowKit

theorem Try.info25 : (Try.prog.info? 25).map (fun i => (i.zero, i.size, i.bytes)) = some (some (.int .i64 0), 1, 8) := by kernel_rfl

/-- A row that is owned whole: its block. -/
theorem owned_block {w : World} {base : Nat} {e : TypeId} {size : Nat} {g n : Nat} {xs : List Value} (h : w.ownsRow base e size (.slice (some ⟨g, 0, none⟩) n n) n xs) : base ≤ g ∧ w.heap[g]? = some (.cells xs.toArray e (0, 0)) := by
  rcases h.2 with ⟨h', _⟩ | ⟨g', cap', cur, h', hb, hg, _, _, hs, htake⟩
  · simp at h'
  · simp only [Value.slice.injEq, Option.some.injEq, Addr.mk.injEq, and_true, true_and] at h'
    obtain ⟨rfl, rfl⟩ := h'
    refine ⟨hb, ?_⟩
    rw [hg, ← htake, List.take_of_length_le (by simp; omega)]

/-- Two worlds that differ at most in how often an order was drawn. -/
def Same (w w' : World) : Prop := ∃ n, w' = w.drewN n
theorem Same.refl (w : World) : Same w w := ⟨0, rfl⟩
theorem Same.cell {w w' : World} (h : Same w w') (a : Addr) : w'.cell? a = w.cell? a := by obtain ⟨n, rfl⟩ := h; simp
theorem Same.drew {w w' : World} (h : Same w w') (n : Nat) : Same w (w'.drewN n) := by
  obtain ⟨m, rfl⟩ := h
  exact ⟨m + n, by rw [World.drewN_drewN]⟩
theorem Same.below {B : Nat} {w0 w w' : World} (h : Same w w') (hb : Below B w0 w) : Below B w0 w' := by
  obtain ⟨n, rfl⟩ := h
  exact ⟨hb.os, hb.tape, hb.output, hb.size, hb.block⟩

set_option maxRecDepth 100000 in
set_option maxHeartbeats 4000000 in
theorem walk_nil (w : World) : Calls Try.prog 3 #[.slice none 0 0] w fun e w' => e = .returned (.bool true) ∧ Below w.heap.size w w' := by
  have hn1 := fun w => run_neq_slice_nil_any (P := Try.prog) w 22 3 none 0 0 0 0 Try.underlying22
  have hn2 := fun w => Lib.run_eql_slice_nil (P := Try.prog) w 22 3 none 0 0 0 0 Try.underlying22
  have hn3 := fun w => Lib.run_eql_slice_nil (P := Try.prog) w 24 25 none 0 0 0 0 Try.underlying24
  have HB := bytes4 w none 0 0 (by omega)
  go_enter Try.func3, Try.ntmps3
  go_wp2_with fail
  refine HB.mono ?_
  rintro e W ⟨rfl, b, rfl⟩
  clear HB
  cases b
  · go_wp2
    go_ret
    exact ⟨rfl, Below.refl _ _⟩
  go_wp2_with fail
  refine (new6 W none 0 0).mono ?_
  rintro e w1 ⟨rfl, h1, b1⟩
  have H1 : Hid (RulesAt w1 W.heap.size (.slice none 0 0) ∧ Below W.heap.size W w1) := ⟨h1, b1⟩
  clear h1 b1
  go_wp2_with fail
  refine (fair7 w1 W.heap.size none 0 0 true H1.out.1 rfl).mono ?_
  rintro e w1' ⟨rfl, rfl⟩
  go_wp2_with fail
  refine (clear8 w1' W.heap.size (.slice none 0 0) H1.out.1).mono ?_
  rintro e w2 ⟨rfl, h2, b2⟩
  have H2 : Hid (RulesAt w2 W.heap.size (.slice none 0 0) ∧ Below W.heap.size W w2) := ⟨h2, H1.out.2.trans (b2 _ (Nat.le_refl _))⟩
  clear h2 b2 H1
  go_wp2_with fail
  refine (fair7 w2 W.heap.size none 0 0 true H2.out.1 rfl).mono ?_
  rintro e w2' ⟨rfl, rfl⟩
  go_wp2_with fail
  refine (deal9 w2' W.heap.size none 0 0 H2.out.1).mono ?_
  rintro e w3 ⟨rfl, rfl⟩
  go_wp2_with fail
  refine wp_loop_rounds 1 ?_
  rw [rounds_succ]
  go_wp2
  go_ret
  exact ⟨rfl, H2.out.2⟩

theorem deal5_empty (w : World) (x : Addr) (cap : Nat) : Calls Try.prog 5 #[.slice (some x) 0 cap] w fun e w' => e = .returned (.bool false) ∧ w' = w := by
  go_enter Try.func5, Try.ntmps5
  go_wp2
  go_ret
  exact ⟨rfl, rfl⟩

set_option maxHeartbeats 4000000 in
theorem walk_empty (w : World) (x : Addr) (cap : Nat) : Calls Try.prog 3 #[.slice (some x) 0 cap] w fun e w' => e = .returned (.bool true) ∧ Below w.heap.size w w' := by
  have hn1 := fun w => run_neq_slice_nil_any (P := Try.prog) w 22 3 (some x) 0 cap 0 0 Try.underlying22
  have HB := bytes4 w (some x) 0 cap (by omega)
  go_enter Try.func3, Try.ntmps3
  go_wp2_with fail
  refine HB.mono ?_
  rintro e W ⟨rfl, b, rfl⟩
  cases b
  · go_wp2
    go_ret
    exact ⟨rfl, Below.refl _ _⟩
  go_wp2_with fail
  refine (deal5_empty W x cap).mono ?_
  rintro e w1 ⟨rfl, rfl⟩
  go_wp2
  go_ret
  exact ⟨rfl, Below.refl _ _⟩

set_option maxHeartbeats 4000000 in
theorem walk_short (w : World) (a : Option Addr) (len cap : Nat) (hl : 65536 < len) (hm : len ≤ 9223372036854775807) : Calls Try.prog 3 #[.slice a len cap] w fun e w' => e = .returned (.bool true) ∧ Below w.heap.size w w' := by
  have HB := bytes4 w a len cap (by omega)
  go_enter Try.func3, Try.ntmps3
  go_wp2_with fail
  refine HB.mono ?_
  rintro e W ⟨rfl, b, rfl⟩
  cases b
  all_goals
    go_wp2
    go_ret
    exact ⟨rfl, Below.refl _ _⟩

set_option maxRecDepth 100000 in
set_option maxHeartbeats 4000000 in
theorem walk_row (w : World) (b0 off len cap : Nat) (zs : List Int) (hl : len ≤ 65536) (hb0 : 0 < len → b0 < w.heap.size) (hc : ∀ i, i < len → w.cell? ⟨b0, off + i, none⟩ = some (.int .i64 (zs.getD i 0))) :
    Calls Try.prog 3 #[.slice (some ⟨b0, off, none⟩) len cap] w fun e w' => e = .returned (.bool true) ∧ Below w.heap.size w w' := by
  obtain ⟨i0, hi, hz0, hz1, hz2⟩ := info_parts Try.info25
  have hn1 := fun w => run_neq_slice_nil_any (P := Try.prog) w 22 3 (some ⟨b0, off, none⟩) len cap 0 0 Try.underlying22
  have HB := bytes4 w (some ⟨b0, off, none⟩) len cap (by omega)
  have HD := deal5 w b0 off len cap zs hl hc
  have HC : Hid (∀ i, i < len → w.cell? ⟨b0, off + i, none⟩ = some (.int .i64 (zs.getD i 0))) := hc
  clear hc
  go_enter Try.func3, Try.ntmps3
  go_wp2_with fail
  refine HB.mono ?_
  rintro e W ⟨rfl, b, rfl⟩
  clear HB
  cases b
  · go_wp2
    go_ret
    exact ⟨rfl, Below.refl _ _⟩
  go_wp2_with fail
  refine HD.mono ?_
  rintro e w' ⟨rfl, b, rfl⟩
  clear HD
  cases b
  · go_wp2
    go_ret
    exact ⟨rfl, Below.refl _ _⟩
  go_wp2_with (at_make; refine wpList_make_full _ rfl (.tmp 26) (.tmp 26) 24 rfl w'.heap.size 25 i0 (.int .i64 0) 1 Try.underlying24 hi hz0 hz1 .i64 .i64 _ _ len rfl rfl rfl rfl (by rw [hz2]; omega) (by unfold maxLen; omega) (Nat.le_refl _) ?_; intro wm hown hgrow)
  go_loopw [4] (fun i wr => ∃ k : Nat, ∃ xs : List Value, k ≤ len ∧ i = .int .i64 k ∧ wr.ownsRow w'.heap.size 25 1 (.slice (some ⟨w'.heap.size, 0, none⟩) len len) len xs ∧
      (∀ j, j < k → xs[j]? = some (.int .i64 (zs.getD j 0))) ∧ Below w'.heap.size w' wr) (fun i _ => len - (intOf i).toNat)
  case atStart => exact ⟨0, _, Nat.zero_le _, rfl, hown, fun j hj => absurd hj (by omega), (Below.refl _ w').grown hgrow (Nat.le_refl _) (fun _ h => by cases h)⟩
  case round =>
    obtain ⟨k, xs, hk, rfl, hw, hx, hbel⟩ := hrel
    clear hown hgrow
    by_cases hlt : k < len
    · have c0 : wr.cell? ⟨b0, off + k, none⟩ = some (.int .i64 (zs.getD k 0)) := (hbel.cell (p := ⟨b0, off + k, none⟩) (hb0 (by omega))).trans (HC.out k hlt)
      have hxl : xs.length = len * 1 := hw.1
      obtain ⟨u, hu⟩ : ∃ u, wr.cell? ⟨w'.heap.size, k, none⟩ = some u := by
        rw [hw.cellAt k (by omega)]
        exact ⟨xs[k], by simp [show k < xs.length by omega]⟩
      have hf := hw.frozenAt k
      obtain ⟨v, hv⟩ : ∃ v, v = zs.getD k 0 := ⟨_, rfl⟩
      have HV : Hid (v = zs.getD k 0) := hv
      rw [← hv] at c0
      have HW : Hid (wr.ownsRow w'.heap.size 25 1 (.slice (some ⟨w'.heap.size, 0, none⟩) len len) len xs ∧ (∀ j, j < k → xs[j]? = some (.int .i64 (zs.getD j 0))) ∧ Below w'.heap.size w' wr) := ⟨hw, hx, hbel⟩
      clear hw hx hbel hv
      go_wp2
      go_roundw
      case rel =>
        obtain ⟨hw, hx, hbel⟩ := HW.out
        refine ⟨k + 1, xs.set k (.int .i64 v), by omega, by go_num, ?_, fun j hj => ?_, hbel.setCell (Nat.le_refl _) _⟩
        · exact (hw.stored k (.int .i64 v)).1
        · by_cases hjk : j = k
          · subst hjk
            rw [List.getElem?_set_self (by omega), HV.out]
          · rw [List.getElem?_set_ne (by omega)]; exact hx j (by omega)
      case measure => simp [intOf]; omega
    · have hkn : k = len := by omega
      have HW : Hid ((∀ j, j < len → wr.cell? ⟨w'.heap.size, j, none⟩ = some (.int .i64 (zs.getD j 0))) ∧ Below w'.heap.size w' wr) := by
        refine ⟨fun j hj => ?_, hbel⟩
        have hxl : xs.length = len * 1 := hw.1
        rw [hw.cellAt j (by omega)]
        exact hx j (by omega)
      have hlw : w'.heap.size < wr.heap.size := blk_lt (owned_block hw).2
      clear hw hx hbel hkn hn1 hi hz0 hz1 hz2
      go_wp2_with fail
      refine (new6 wr (some ⟨w'.heap.size, 0, none⟩) len len).mono ?_
      rintro e w1 ⟨rfl, h1, b1⟩
      have H1 : Hid (RulesAt w1 wr.heap.size (.slice (some ⟨w'.heap.size, 0, none⟩) len len) ∧ Below wr.heap.size wr w1) := ⟨h1, b1⟩
      clear h1 b1
      go_wp2_with fail
      refine (fair7 w1 wr.heap.size _ len len false H1.out.1 rfl).mono ?_
      rintro e w1' ⟨rfl, rfl⟩
      go_wp2_with fail
      refine (clear8 w1' wr.heap.size _ H1.out.1).mono ?_
      rintro e w2 ⟨rfl, h2, b2⟩
      have H2 : Hid (RulesAt w2 wr.heap.size (.slice (some ⟨w'.heap.size, 0, none⟩) len len) ∧ Below wr.heap.size wr w2) := ⟨h2, H1.out.2.trans (b2 _ (Nat.le_refl _))⟩
      clear h2 b2 H1
      go_wp2_with fail
      refine (fair7 w2 wr.heap.size _ len len false H2.out.1 rfl).mono ?_
      rintro e w2' ⟨rfl, rfl⟩
      go_wp2_with fail
      refine (deal9 w2' wr.heap.size _ len len H2.out.1).mono ?_
      rintro e w3 ⟨rfl, rfl⟩
      have HB3 : Hid (Below w'.heap.size w' w3) := HW.out.2.trans (H2.out.2.mono (by omega))
      have HX : Hid (∀ j, j < len → w3.cell? ⟨w'.heap.size, j, none⟩ = some (.int .i64 (zs.getD j 0)) ∧ w3.cell? ⟨b0, off + j, none⟩ = some (.int .i64 (zs.getD j 0))) := fun j hj =>
        ⟨(H2.out.2.cell (p := ⟨w'.heap.size, j, none⟩) hlw).trans (HW.out.1 j hj), (HB3.out.cell (p := ⟨b0, off + j, none⟩) (hb0 (by omega))).trans (HC.out j hj)⟩
      clear H2 HW HC hlw
      have hn2 := fun w => Lib.run_eql_slice_nil (P := Try.prog) w 22 3 (some ⟨b0, off, none⟩) len cap 0 0 Try.underlying22
      have hn3 := fun w => Lib.run_eql_slice_nil (P := Try.prog) w 24 25 (some ⟨w'.heap.size, 0, none⟩) len len 0 0 Try.underlying24
      have hne : ((len : Int) != (len : Int)) = false := by simp
      go_wp2_with fail
      clear hn3 hne
      go_loopw [9] (fun i wq => ∃ k : Nat, k ≤ len ∧ i = .int .i64 k ∧ Same w3 wq) (fun i _ => len - (intOf i).toNat)
      case atStart => exact ⟨0, Nat.zero_le _, rfl, Same.refl _⟩
      case round =>
        obtain ⟨m, hm, rfl, hs⟩ := hrel
        have HS : Hid (Same w3 wr) := hs
        clear hs
        by_cases hmlt : m < len
        · obtain ⟨c0, c1⟩ := HX.out m hmlt
          rw [← HS.out.cell] at c0 c1
          obtain ⟨v, hv⟩ : ∃ v, v = zs.getD m 0 := ⟨_, rfl⟩
          rw [← hv] at c0 c1
          have hvv : (v != v) = false := by simp
          clear hv
          go_wp2_with fail
          go_quiet (fail)
          go_wp2
          go_roundw
          case rel => exact ⟨m + 1, by omega, by go_num, HS.out.drew _⟩
          case measure => simp [intOf]; omega
        · go_wp2
          go_ret
          exact ⟨rfl, HS.out.below HB3.out⟩
end Go.Proofs.Qxb6614034a
