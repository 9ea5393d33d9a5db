/-
  A PROOF OF 'Rows.FnPartitionPreferredLeaderIsFirstReplicaWhateverFollowsSaid'. The frame was written by the kit's program (proof-skeleton) off the guide's own print for this function; the walk is the prover's.
-/
import Derived.Test.Qxb6613493aRows
import Derived.OwnWalk
import Derived.WalkKit
import Derived.ProofKit
import Derived.OpenShut
import Derived.ShutString
import Derived.ChangeOld
import Derived.Below
namespace Go.Proofs.Qxb6613493a.fnPartitionPreferredLeaderIsFirstReplicaWhateverFollows
open Go.ChangeShapes Go.WideShapes Go.ChangeAt Go.RowKit
open Go.ChangeMaps (open_string shut_string)
set_option linter.unusedVariables false

theorem own : ownKnob Try.prog.godebug = none := by kernel_rfl
theorem laidOut : laidOutB Try.prog = true := by kernel_rfl

/-- WHAT THE WALK IS TOLD OF A SLICE OF INTEGERS THAT CAME IN: it is nil; or it leads to a row of 'cap' cells, the numbers 'zs' (the first 'len' are its elements, the rest its spare room), each fitting its kind. -/
def IsRow (k : IntKind) (w : World) (a : Option Addr) (len cap : Nat) (zs : List Int) : Prop :=
  (a = none ∧ len = 0 ∧ cap = 0 ∧ zs = []) ∨
  ∃ x, a = some x ∧ len ≤ cap ∧ cap ≤ maxLen ∧ zs.length = cap ∧ (∀ i, i < zs.length → w.cell? (x.add i) = some (.int k (zs.getD i 0))) ∧ ∀ n ∈ zs, (Lit.int k n).wf = true

theorem Try.info21 : (Try.prog.info? 21).map (fun i => (i.zero, i.size, i.bytes)) = some (some (.int .i32 0), 1, 4) := by kernel_rfl

theorem isRow_len {k : IntKind} {w : World} {a : Option Addr} {len cap : Nat} {zs : List Int} (h : IsRow k w a len cap zs) : len ≤ 9223372036854775807 := by
  rcases h with ⟨_, h, _⟩ | ⟨_, _, h1, h2, _⟩
  · omega
  · unfold maxLen at h2; omega

theorem blk_lt {w : World} {a : Addr} {v : Value} (h : w.cell? a = some v) : a.block < w.heap.size := by
  rcases Nat.lt_or_ge a.block w.heap.size with h' | h'
  · exact h'
  · simp [World.cell?, Array.getElem?_eq_none h'] at h

theorem row_at {w : World} {a : Option Addr} {len cap : Nat} {zs : List Int} (h : IsRow .i32 w a len cap zs) (j : Nat) (hj : j < len) :
    ∃ b off, a = some ⟨b, off, none⟩ ∧ b < w.heap.size ∧ w.cell? ⟨b, off + j, none⟩ = some (.int .i32 (zs.getD j 0)) := by
  rcases h with ⟨_, h, _⟩ | ⟨x, rfl, h1, h2, h3, h4, _⟩
  · omega
  · obtain ⟨b, off, rfl, hc⟩ := ints_at h4 (by omega)
    exact ⟨b, off, rfl, blk_lt (hc j (by omega)), hc j (by omega)⟩

theorem row_step {wr : World} {B n j : Nat} {xs : List Value} {f v : Int} (hw : wr.ownsRow B 21 1 (.slice (some ⟨B, 0, none⟩) n n) n xs) (hx : xs[0]? = some (.int .i32 f)) (hj : 0 < j ∨ v = f) (hn : 0 < n) :
    ∃ ys : List Value, (wr.setCell ⟨B, j, none⟩ (.int .i32 v)).ownsRow B 21 1 (.slice (some ⟨B, 0, none⟩) n n) n ys ∧ ys[0]? = some (.int .i32 f) := by
  refine ⟨_, (hw.stored j (.int .i32 v)).1, ?_⟩
  have hl : 0 < xs.length := by rw [hw.1]; omega
  rcases hj with hj | rfl
  · rw [List.getElem?_set_ne (by omega)]; exact hx
  · by_cases h0 : j = 0
    · subst h0; simp [hl]
    · rw [List.getElem?_set_ne (by omega)]; exact hx

theorem walk_main (b0 off0 : Nat) (len0 cap0 : Nat) (z0 : List Int) (f : Int) (a1 : Option Addr) (len1 cap1 : Nat) (z1 : List Int) (a2 : Option Addr) (len2 cap2 : Nat) (a3 : Int) (a4 : Int) (a5 : Int) (w : World)
    (hc0 : ∀ j, j < len0 → w.cell? ⟨b0, off0 + j, none⟩ = some (.int .i32 (z0.getD j 0))) (hfirst : w.cell? ⟨b0, off0, none⟩ = some (.int .i32 f)) (hb0 : b0 < w.heap.size)
    (w1 : Hid (IsRow .i32 w a1 len1 cap1 z1)) (hs : len0 + len1 + len2 ≤ 1048576) (l0 : len0 ≤ 65536) (l1 : len1 ≤ 65536) (l2 : len2 ≤ 65536) (hp : 0 < len0) :
    Calls Try.prog 5 #[.slice (some ⟨b0, off0, none⟩) len0 cap0, .slice a1 len1 cap1, .slice a2 len2 cap2, .int .i32 a3, .int .i32 a4, .int .i32 a5] w fun e w' => e = .returned (.bool true) ∧ Below w.heap.size w w' := by
  obtain ⟨i0, hi, hz0, hz1, hz2⟩ := info_parts Try.info21
  have hne : ((len0 : Int) == 0) = false := by simp; omega
  have HC : Hid (∀ j, j < len0 → w.cell? ⟨b0, off0 + j, none⟩ = some (.int .i32 (z0.getD j 0))) := hc0
  clear hc0
  go_enter Try.func5, Try.ntmps5
  go_wp2_with (first
    | (at_make; refine wpList_make_full _ rfl (.tmp 43) (.tmp 43) 26 rfl w.heap.size 21 i0 (.int .i32 0) 1 Try.underlying26 hi hz0 hz1 .i64 .i64 _ _ (len0 + len1) rfl rfl (by omega) (by omega) (by rw [hz2]; omega) (by unfold maxLen; omega) (Nat.le_refl _) ?_; intro wm hown hgrow)
    | (go_at_call 8; go_in))
  go_loopw [14] (fun i wr => ∃ k : Nat, ∃ xs : List Value, k ≤ len0 ∧ i = .int .i64 k ∧ wr.ownsRow w.heap.size 21 1 (.slice (some ⟨w.heap.size, 0, none⟩) (len0 + len1) (len0 + len1)) (len0 + len1) xs ∧
      (0 < k → xs[0]? = some (.int .i32 f)) ∧ Below w.heap.size w wr) (fun i _ => len0 - (intOf i).toNat)
  case atStart => exact ⟨0, _, Nat.zero_le _, rfl, hown, fun h => absurd h (by omega), (Below.refl _ w).grown hgrow (Nat.le_refl _) (fun _ h => by cases h)⟩
  case round =>
    obtain ⟨k, xs, hk, rfl, hw, hx, hbel⟩ := hrel
    clear hown hgrow
    by_cases hlt : k < len0
    · have c0 : wr.cell? ⟨b0, off0 + k, none⟩ = some (.int .i32 (z0.getD k 0)) := (hbel.cell (by exact hb0)).trans (HC.out k hlt)
      obtain ⟨u, hu⟩ : ∃ u, wr.cell? ⟨w.heap.size, k, none⟩ = some u := by
        rw [hw.cellAt k (by omega)]
        have : k < xs.length := by rw [hw.1]; omega
        exact ⟨xs[k], by simp [this]⟩
      have hf := hw.frozenAt k
      have HX : Hid (∃ ys : List Value, (wr.setCell ⟨w.heap.size, k, none⟩ (.int .i32 (z0[k]?.getD 0))).ownsRow w.heap.size 21 1 (.slice (some ⟨w.heap.size, 0, none⟩) (len0 + len1) (len0 + len1)) (len0 + len1) ys ∧ ys[0]? = some (.int .i32 f)) := by
        by_cases h0 : k = 0
        · subst h0
          have e := HC.out 0 hp
          rw [Nat.add_zero, hfirst] at e
          simp at e
          refine ⟨_, (hw.stored 0 _).1, ?_⟩
          have hl : 0 < xs.length := by rw [hw.1]; omega
          simp [hl, e]
        · exact row_step hw (hx (by omega)) (Or.inl (by omega)) (by omega)
      have HB : Hid (Below w.heap.size w (wr.setCell ⟨w.heap.size, k, none⟩ (.int .i32 (z0[k]?.getD 0)))) := hbel.setCell (Nat.le_refl _) _
      clear hw hx hbel
      go_wp2
      go_roundw
      case rel =>
        obtain ⟨ys, h1, h2⟩ := HX.out
        exact ⟨k + 1, ys, by omega, by go_num, h1, fun _ => h2, HB.out⟩
      case measure => simp [intOf]; omega
    · have hx0 := hx (by omega)
      clear hx
      go_wp2_with fail
      go_loopw [15] (fun i wr => ∃ j : Nat, ∃ xs : List Value, j ≤ len1 ∧ i = .int .i64 j ∧ wr.ownsRow w.heap.size 21 1 (.slice (some ⟨w.heap.size, 0, none⟩) (len0 + len1) (len0 + len1)) (len0 + len1) xs ∧
          xs[0]? = some (.int .i32 f) ∧ Below w.heap.size w wr) (fun i _ => len1 - (intOf i).toNat)
      case atStart => exact ⟨0, _, Nat.zero_le _, rfl, hw, hx0, hbel⟩
      case round =>
        clear hw hx0 hbel
        obtain ⟨j, ys, hj, rfl, hw, hx, hbel⟩ := hrel
        by_cases hlt : j < len1
        · obtain ⟨b1, off1, rfl, hb1, hc1⟩ := row_at w1.out j hlt
          have c1 : wr.cell? ⟨b1, off1 + j, none⟩ = some (.int .i32 (z1.getD j 0)) := (hbel.cell (by exact hb1)).trans hc1
          obtain ⟨u, hu⟩ : ∃ u, wr.cell? ⟨w.heap.size, len0 + j, none⟩ = some u := by
            rw [hw.cellAt (len0 + j) (by omega)]
            have : len0 + j < ys.length := by rw [hw.1]; omega
            exact ⟨ys[len0 + j], by simp [this]⟩
          have hf := hw.frozenAt (len0 + j)
          have HX : Hid (∃ ys : List Value, (wr.setCell ⟨w.heap.size, len0 + j, none⟩ (.int .i32 (z1[j]?.getD 0))).ownsRow w.heap.size 21 1 (.slice (some ⟨w.heap.size, 0, none⟩) (len0 + len1) (len0 + len1)) (len0 + len1) ys ∧ ys[0]? = some (.int .i32 f)) :=
            row_step hw hx (Or.inl (by omega)) (by omega)
          have HB : Hid (Below w.heap.size w (wr.setCell ⟨w.heap.size, len0 + j, none⟩ (.int .i32 (z1[j]?.getD 0)))) := hbel.setCell (Nat.le_refl _) _
          clear hw hx hbel hc1
          go_wp2
          go_roundw
          case rel =>
            obtain ⟨ys, h1, h2⟩ := HX.out
            exact ⟨j + 1, ys, by omega, by go_num, h1, h2, HB.out⟩
          case measure => simp [intOf]; omega
        · have cf : wr.cell? ⟨b0, off0, none⟩ = some (.int .i32 f) := (hbel.cell (by exact hb0)).trans hfirst
          have cJ : wr.cell? ⟨w.heap.size, 0, none⟩ = some (.int .i32 f) := by rw [hw.cellAt 0 (by omega)]; exact hx
          have z1' : w.heap.size < wr.heap.size := blk_lt cJ
          have z0' : b0 < wr.heap.size := by omega
          have y1 : w.heap.size < wr.heap.size + 1 := by omega
          have y2 : w.heap.size < wr.heap.size + 1 + 1 := by omega
          have y3 : w.heap.size < wr.heap.size + 1 + 1 + 1 := by omega
          have x1 : b0 < wr.heap.size + 1 := by omega
          have x2 : b0 < wr.heap.size + 1 + 1 := by omega
          have x3 : b0 < wr.heap.size + 1 + 1 + 1 := by omega
          have HB : Hid (Below w.heap.size w wr) := hbel
          clear hw hx hbel
          go_wp2
          go_ret
          have HS := HB.out.size
          exact ⟨rfl, by repeat (first | exact HB.out | (refine Below.alloc ?_ (by first | exact HS | (simp; omega)) _))⟩

theorem walk (a0 : Option Addr) (len0 cap0 : Nat) (z0 : List Int) (a1 : Option Addr) (len1 cap1 : Nat) (z1 : List Int) (a2 : Option Addr) (len2 cap2 : Nat) (z2 : List Int) (a3 : Int) (a4 : Int) (a5 : Int) (w : World) (w0 : IsRow .i32 w a0 len0 cap0 z0) (w1 : IsRow .i32 w a1 len1 cap1 z1) (w2 : IsRow .i32 w a2 len2 cap2 z2) (w3 : (Lit.int .i32 a3).wf = true) (w4 : (Lit.int .i32 a4).wf = true) (w5 : (Lit.int .i32 a5).wf = true) :
    Calls Try.prog 5 #[.slice a0 len0 cap0, .slice a1 len1 cap1, .slice a2 len2 cap2, .int .i32 a3, .int .i32 a4, .int .i32 a5] w fun e w' => e = .returned (.bool true) ∧ Below w.heap.size w w' := by
  have m0 := isRow_len w0
  have m1 := isRow_len w1
  have m2 := isRow_len w2
  by_cases hok : len0 + len1 + len2 ≤ 1048576 ∧ len0 ≤ 65536 ∧ len1 ≤ 65536 ∧ len2 ≤ 65536 ∧ 0 < len0
  · obtain ⟨hs, l0, l1, l2, hp⟩ := hok
    obtain ⟨b0, off0, rfl, hb0, hc⟩ := row_at w0 0 hp
    refine walk_main b0 off0 len0 cap0 z0 (z0.getD 0 0) a1 len1 cap1 z1 a2 len2 cap2 a3 a4 a5 w (fun j hj => ?_) hc hb0 w1 hs l0 l1 l2 hp
    obtain ⟨b', off', e, _, h⟩ := row_at w0 j hj
    simp at e
    obtain ⟨rfl, rfl⟩ := e
    exact h
  · have hne : (len0 + len1 + len2 ≤ 1048576 ∧ len0 ≤ 65536 ∧ len1 ≤ 65536 ∧ len2 ≤ 65536) → ((len0 : Int) == 0) = true := by
      intro h; simp; omega
    clear w0 w1 w2 w3 w4 w5
    by_cases hs : len0 + len1 + len2 ≤ 1048576
    · by_cases l0 : len0 ≤ 65536
      · by_cases l1 : len1 ≤ 65536
        · by_cases l2 : len2 ≤ 65536
          · have hne' := hne ⟨hs, l0, l1, l2⟩
            clear hne hok
            go_enter Try.func5, Try.ntmps5
            go_wp2
            go_ret
            exact ⟨rfl, Below.refl _ _⟩
          · clear hne hok
            go_enter Try.func5, Try.ntmps5
            go_wp2
            go_ret
            exact ⟨rfl, Below.refl _ _⟩
        · clear hne hok
          go_enter Try.func5, Try.ntmps5
          go_wp2
          go_ret
          exact ⟨rfl, Below.refl _ _⟩
      · clear hne hok
        go_enter Try.func5, Try.ntmps5
        go_wp2
        go_ret
        exact ⟨rfl, Below.refl _ _⟩
    · clear hne hok
      go_enter Try.func5, Try.ntmps5
      go_wp2
      all_goals
        go_ret
        exact ⟨rfl, Below.refl _ _⟩

/-! ### THE ROW's STEP: WRITTEN OUT: LEAVE IT -/
set_option maxRecDepth 100000 in
theorem lifted (os : Os) (started : os.Started) (H : Type) (enc : TypeId × Value → H) :
    ReturnsInHanded {} Try.checked os 5 .any (Rows.fnPartitionPreferredLeaderIsFirstReplicaWhateverFollowsSpec.pre6 enc Try.prog Try.f5 Rows.fnPartitionPreferredLeaderIsFirstReplicaWhateverFollowsRow.domain false) (Rows.fnPartitionPreferredLeaderIsFirstReplicaWhateverFollowsSpec.post enc Try.prog Try.f5 false true false false) := by
  refine returnsInHanded_of_change (C := Try.checked) own started (by kernel_rfl) Try.func5
    (ChangeSpec.witness6 (enc := enc) (C := Try.checked) false ⟨#[], #[.slice none 0 0, .slice none 0 0, .slice none 0 0, .int .i32 0, .int .i32 0, .int .i32 0], []⟩ 8 (by kernel_rfl) (by kernel_rfl) (by kernel_rfl) (by kernel_rfl)) ?_
  intro W base args ds gs before hval0 hW hcnd _
  have hval : ∀ (j : Nat) t v, Try.f5.params[j]? = some t → args[j]? = some v → Value.okWide Try.prog W .any base t v := hval0
  have hW' := hW
  obtain ⟨p, q, hA0, hV, rfl, hfz, hnd⟩ := hW
  have hA : DataW.TrodAll enc Try.prog W 0 (fun _ => true) true Try.f5.params.toList args.toList ds p := hA0
  rw [Try.params5] at hA hval
  obtain ⟨v0, vs0, d0, ds0, p0, q0, hargs, rfl, rfl, h0, r0⟩ := trodAll_cons hA
  obtain ⟨v1, vs1, d1, ds1, p1, q1, rfl, rfl, rfl, h1, r1⟩ := trodAll_cons r0
  obtain ⟨v2, vs2, d2, ds2, p2, q2, rfl, rfl, rfl, h2, r2⟩ := trodAll_cons r1
  obtain ⟨v3, vs3, d3, ds3, p3, q3, rfl, rfl, rfl, h3, r3⟩ := trodAll_cons r2
  obtain ⟨v4, vs4, d4, ds4, p4, q4, rfl, rfl, rfl, h4, r4⟩ := trodAll_cons r3
  obtain ⟨v5, vs5, d5, ds5, p5, q5, rfl, rfl, rfl, h5, r5⟩ := trodAll_cons r4
  obtain ⟨rfl, rfl, rfl⟩ := trodAll_nil r5
  obtain rfl : args = #[v0, v1, v2, v3, v4, v5] := by cases args; simp_all
  obtain ⟨rfl, rfl⟩ := trodVars_none hV
  obtain ⟨a0, len0, cap0, rfl⟩ := okWide_slice Try.underlying26 (hval 0 26 v0 rfl rfl)
  have k0 := h0
  have lt0 : ∀ x ∈ p0, x.block < W.heap.size := by obtain ⟨m, hm⟩ := k0; exact DataW.trod_lt m _ _ _ hm
  obtain ⟨z0, w0⟩ : ∃ zs, IsRow .i32 W a0 len0 cap0 zs := by
    obtain ⟨fuel, hf⟩ := h0
    rcases open_ints Try.underlying26 Try.underlying21 (by kernel_rfl) hf with ⟨hcs, _⟩ | ⟨x, l, c, zs, hcs, _, hl, hm, hz, _, hcell, hwz⟩
    · simp [Value.cells] at hcs
      obtain ⟨rfl, rfl, rfl⟩ := hcs
      exact ⟨[], .inl ⟨rfl, rfl, rfl, rfl⟩⟩
    · simp [Value.cells] at hcs
      obtain ⟨rfl, rfl, rfl⟩ := hcs
      exact ⟨zs, .inr ⟨_, rfl, hl, hm, by simpa using hz, hcell, hwz⟩⟩
  obtain ⟨a1, len1, cap1, rfl⟩ := okWide_slice Try.underlying26 (hval 1 26 v1 rfl rfl)
  have k1 := h1
  have lt1 : ∀ x ∈ p1, x.block < W.heap.size := by obtain ⟨m, hm⟩ := k1; exact DataW.trod_lt m _ _ _ hm
  obtain ⟨z1, w1⟩ : ∃ zs, IsRow .i32 W a1 len1 cap1 zs := by
    obtain ⟨fuel, hf⟩ := h1
    rcases open_ints Try.underlying26 Try.underlying21 (by kernel_rfl) hf with ⟨hcs, _⟩ | ⟨x, l, c, zs, hcs, _, hl, hm, hz, _, hcell, hwz⟩
    · simp [Value.cells] at hcs
      obtain ⟨rfl, rfl, rfl⟩ := hcs
      exact ⟨[], .inl ⟨rfl, rfl, rfl, rfl⟩⟩
    · simp [Value.cells] at hcs
      obtain ⟨rfl, rfl, rfl⟩ := hcs
      exact ⟨zs, .inr ⟨_, rfl, hl, hm, by simpa using hz, hcell, hwz⟩⟩
  obtain ⟨a2, len2, cap2, rfl⟩ := okWide_slice Try.underlying26 (hval 2 26 v2 rfl rfl)
  have k2 := h2
  have lt2 : ∀ x ∈ p2, x.block < W.heap.size := by obtain ⟨m, hm⟩ := k2; exact DataW.trod_lt m _ _ _ hm
  obtain ⟨z2, w2⟩ : ∃ zs, IsRow .i32 W a2 len2 cap2 zs := by
    obtain ⟨fuel, hf⟩ := h2
    rcases open_ints Try.underlying26 Try.underlying21 (by kernel_rfl) hf with ⟨hcs, _⟩ | ⟨x, l, c, zs, hcs, _, hl, hm, hz, _, hcell, hwz⟩
    · simp [Value.cells] at hcs
      obtain ⟨rfl, rfl, rfl⟩ := hcs
      exact ⟨[], .inl ⟨rfl, rfl, rfl, rfl⟩⟩
    · simp [Value.cells] at hcs
      obtain ⟨rfl, rfl, rfl⟩ := hcs
      exact ⟨zs, .inr ⟨_, rfl, hl, hm, by simpa using hz, hcell, hwz⟩⟩
  obtain ⟨a3, rfl, rfl, rfl, w3⟩ := open_int Try.underlying21 (hval 3 21 v3 rfl rfl) h3
  obtain ⟨a4, rfl, rfl, rfl, w4⟩ := open_int Try.underlying21 (hval 4 21 v4 rfl rfl) h4
  obtain ⟨a5, rfl, rfl, rfl, w5⟩ := open_int Try.underlying21 (hval 5 21 v5 rfl rfl) h5
  clear hA0 hval0
  refine (walk a0 len0 cap0 z0 a1 len1 cap1 z1 a2 len2 cap2 z2 a3 a4 a5 W w0 w1 w2 w3 w4 w5).mono fun e W' ⟨he, bel⟩ => ?_
  subst he
  exact ⟨_, rfl, _, _, _, [], _, [], hW', trodAll_mk1 (shut_bool Try.underlying4 _), (trodAll_cons_mk (Below.trod laidOut (by kernel_rfl) (of_decide_eq_true (by kernel_rfl)) k0 bel lt0) (trodAll_cons_mk (Below.trod laidOut (by kernel_rfl) (of_decide_eq_true (by kernel_rfl)) k1 bel lt1) (trodAll_cons_mk (Below.trod laidOut (by kernel_rfl) (of_decide_eq_true (by kernel_rfl)) k2 bel lt2) (trodAll_cons_mk (shut_int Try.underlying21 w3) (trodAll_cons_mk (shut_int Try.underlying21 w4) (trodAll_cons_mk (shut_int Try.underlying21 w5) trodAll_mk0)))))), rfl, bel.frame _, fun h => by cases h⟩

theorem over : Rows.fnPartitionPreferredLeaderIsFirstReplicaWhateverFollowsRow.holds Try.pinned (OpenSpec.ofChange Rows.fnPartitionPreferredLeaderIsFirstReplicaWhateverFollowsSpec) :=
  OpenClaim.holds_of_wide 5 Try.f5 rfl rfl rfl rfl rfl rfl rfl ⟨rfl, rfl, rfl, rfl, rfl⟩ rfl rfl rfl rfl rfl (by kernel_rfl) Try.func5 (by kernel_rfl)
    (of_decide_eq_true (by kernel_rfl)) (by unfold Func.isWrapper; first | (rw [if_pos (by decide +kernel)]; kernel_rfl) | (rw [if_neg (by decide +kernel)]; exact ⟨rfl, rfl⟩))
    (fun os started H enc _ => lifted os started H enc)

/-- ████ THE STATEMENT ████ -/
theorem proved : Rows.FnPartitionPreferredLeaderIsFirstReplicaWhateverFollowsSaid := over
#print axioms proved
end Go.Proofs.Qxb6613493a.fnPartitionPreferredLeaderIsFirstReplicaWhateverFollows
