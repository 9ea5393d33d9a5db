/-
  THE FIRST LAW's WALK (function 3).
-/
import Derived.Test.Qxb6613560aFmtClone
import Derived.Laws.CopyOwn
namespace Go.Proofs.Qxb6613560aFmt
open Go.RowKit Go.Extern.Stop Go.Stop Go.Extern

/-- The kinds as they came in. -/
def KindIn (w : World) (a : Option Addr) (len : Nat) (kd : List Int) : Prop :=
  kd.length = len ∧ len ≤ 9223372036854775807 ∧ ((a = none ∧ len = 0) ∨ ∃ x, a = some x ∧ ∀ i, i < len → w.cell? (x.add i) = some (.int .u8 (kd.getD i 0)))

theorem StrsIn.below {w w' : World} {a : Option Addr} {len : Nat} {ks : List ByteArray} (h : StrsIn w a len ks) (hb : Below w.heap.size w w') : StrsIn w' a len ks := by
  obtain ⟨h1, h2, h3, h4 | ⟨x, h4, h5⟩⟩ := h
  · exact ⟨h1, h2, h3, Or.inl h4⟩
  · exact ⟨h1, h2, h3, Or.inr ⟨x, h4, fun i hi => (hb.cell (World.block_lt_of_cell? w _ (h5 i hi))).trans (h5 i hi)⟩⟩
theorem KeysAt.below {w w' : World} {kv : Value} {ks : List ByteArray} (h : KeysAt w kv ks) (hb : Below w.heap.size w w') : KeysAt w' kv ks :=
  h.same hb.size (fun K j _ hKl hs => (hb.cell (p := ⟨K, j, none⟩) hKl).trans hs)

/-- The copied kinds lie whole in their new row. -/
theorem copied {cur : List Value} {kd : List Int} {n : Nat} (hc : cur.length = n) (hk : kd.length = n) : splice cur 0 (kd.map (Value.int .u8)) = kd.map (Value.int .u8) := by
  simp [splice]
  omega

theorem marks2 {ks : List ByteArray} {key : ByteArray} {j : Nat} (hj : j < ks.length) : (markB ks (markB ks (List.replicate ks.length false) key) key)[j]? = some (decide (idxOf ks key = some j)) := by
  unfold markB
  cases h : idxOf ks key with
  | none => simp [hj]
  | some i =>
    simp only
    by_cases e : i = j
    · subst e; simp [hj]
    · rw [List.getElem?_set_ne e, List.getElem?_set_ne e]; simp [hj, e]

theorem used_cell {w : World} {F V U : Nat} {kv : Value} {ks : List ByteArray} {kd : List Int} {us : List Bool} {er : Value} {j : Nat} {b : Bool} (h : FieldsAt w F V U kv ks kd us er) (hj : us[j]? = some b) : w.cell? ⟨U, j, none⟩ = some (.bool b) := by
  rw [cell_of_row _ _ _ _ _ _ h.used]
  simp [hj]

section
variable (F0 : Interp) (w : World) (a0 : Option Addr) (len0 cap0 : Nat) (ks : List ByteArray) (x1 : Addr) (len1 cap1 : Nat) (kd : List Int) (key : ByteArray)
set_option maxRecDepth 100000 in
set_option maxHeartbeats 4000000 in
theorem lawA_some (hF0 : F0.answers w.tape) (hS : StrsIn w a0 len0 ks) (hD : KindIn w (some x1) len1 kd) (hl0 : len0 ≤ 65536) (hl1 : len1 ≤ 1048576) (hkey : key.size ≤ 1048576) :
    Calls Tryf.prog 3 #[.slice a0 len0 cap0, .slice (some x1) len1 cap1, .string key] w fun e w' => e = .returned (.bool true) ∧ Below w.heap.size w w' := by
  obtain ⟨i0, hi, hz0, hz1, hz2⟩ := info_parts Tryf.info5
  have hsz5 : (Tryf.prog.info? 5).map (·.size) = some 1 := by rw [hi]; simp [hz1]
  have hnil := fun w => run_neq_slice_nil_any (P := Tryf.prog) w 23 5 (some x1) len1 cap1 0 0 Tryf.underlying23
  have HB5 := bytes5 w a0 len0 cap0 ks (some x1) len1 cap1 key hS (by omega) (by omega)
  have HS : Hid (StrsIn w a0 len0 ks) := hS
  have HD : Hid (KindIn w (some x1) len1 kd) := hD
  obtain ⟨cs, hcs⟩ : ∃ cs, cs = kd.map (Value.int .u8) := ⟨_, rfl⟩
  have hcl : cs.length = len1 := by rw [hcs]; simp [hD.1]
  have HCS : Hid (cs = kd.map (Value.int .u8)) := hcs
  have HCC : Hid (∀ j v, cs[j]? = some v → w.cell? (x1.add j) = some v) := by
    intro j v hv
    rw [hcs] at hv
    obtain ⟨h1, h2, ⟨h3, _⟩ | ⟨x, h3, h4⟩⟩ := hD
    · cases h3
    · cases h3
      have hj : j < len1 := by have := (List.getElem?_eq_some_iff.1 hv).1; simpa [h1] using this
      rw [h4 j hj]
      simp [show j < kd.length by omega] at hv
      simp [List.getD, show j < kd.length by omega, hv]
  have HC1 : Hid (∀ v ∈ cs, v.oneCell' = true) := by
    intro v hv
    rw [hcs] at hv
    obtain ⟨n, _, rfl⟩ := List.mem_map.1 hv
    rfl
  clear hS hD hcs
  go_enter Tryf.func3, Tryf.ntmps3
  go_wp2_with fail
  refine HB5.mono ?_
  rintro e W ⟨rfl, b, rfl, hbt⟩
  cases b
  · go_wp2
    go_ret
    exact ⟨rfl, Below.refl _ _⟩
  have HSM : Hid (∀ j, j < len0 → (ks.getD j ByteArray.empty).size ≤ 1048576) := hbt rfl
  clear hbt HB5
  go_wp2_with (first
    | (at_make; refine wpList_make_full _ rfl (.tmp 39) (.tmp 39) 23 rfl W.heap.size 5 i0 (.int .u8 0) 1 Tryf.underlying23 hi hz0 hz1 .i64 .i64 _ _ len1 rfl rfl rfl rfl (by rw [hz2]; omega) (by unfold maxLen; omega) (Nat.le_refl _) ?_; intro wm hown hgrow)
    | (refine wpList_copy_splice rfl (.tmp 41) (.tmp 42) 23 23 rfl 5 Tryf.underlying23 hsz5 (some ⟨W.heap.size, 0, none⟩) (some x1) len1 len1 len1 cap1 rfl rfl W.heap.size 0 _ 5 (owned_block hown).2 cs (by rw [hcl]; exact (Nat.min_self _).symm) (fun _ => ⟨rfl, x1, rfl, fun j v hv => ((Below.refl _ W).grown hgrow (Nat.le_refl _) (fun _ h => by cases h)).cell (World.block_lt_of_cell? W _ (HCC.out j v hv)) |>.trans (HCC.out j v hv)⟩) (by rw [hcl]; simp [size_madeCells]) HC1.out W.heap.size W ((Below.refl _ W).grown hgrow (Nat.le_refl _) (fun _ h => by cases h)) (Nat.le_refl _) ?_; intro wc hgc hbc))
  have HK : Hid (KindsAt wc (.slice (some ⟨W.heap.size, 0, none⟩) len1 len1) kd ∧ Below W.heap.size W wc) := by
    have hg := hgc.out
    rw [HCS.out, copied (n := len1) (by simp [size_madeCells]) HD.out.1] at hg
    refine ⟨Or.inr ⟨W.heap.size, len1, by rw [HD.out.1], blk_lt hg, fun j hj => ?_⟩, hbc⟩
    rw [cell_of_row _ _ _ _ _ _ hg]
    simp [List.getD, hj]
  clear hown hgrow hgc hbc hnil HCC HC1 hcl HCS hsz5 hi hz0 hz1 hz2
  go_loop [8, 9] (fun t i => ∃ k n : Nat, k ≤ len0 ∧ i = .int .i64 k ∧ t = .int .i64 n ∧ n ≤ 2097152) (fun _ i => len0 - (intOf i).toNat)
  case atStart => exact ⟨0, len1 + key.size, Nat.zero_le _, rfl, by go_num, by omega⟩
  case round =>
    obtain ⟨k, n, hk, rfl, rfl, hn⟩ := hrel
    by_cases hlt : k < len0
    · obtain ⟨b0, off, rfl, hb0, hc⟩ := strs_at (HS.out.below HK.out.2) (by omega)
      obtain ⟨s, hs⟩ : ∃ s, s = ks.getD k ByteArray.empty := ⟨_, rfl⟩
      have c0 : wc.cell? ⟨b0, off + k, none⟩ = some (.string s) := by rw [hs]; exact hc k hlt
      have hsz : s.size ≤ 1048576 := by rw [hs]; exact HSM.out k hlt
      clear hs hc
      by_cases h2 : n + (16 + s.size) ≤ 1048576
      · go_wp2
        go_round
        case rel => exact ⟨k + 1, n + (16 + s.size), by omega, by go_num, by go_num, by omega⟩
        case measure => simp [intOf]; omega
      · go_wp2
        go_ret
        exact ⟨rfl, HK.out.2⟩
    · by_cases hnn : n ≤ 1048576
      · by_cases hlen : len1 = len0
        · subst hlen
          have hne : ((len1 : Int) != (len1 : Int)) = false := by simp
          have hfit : Fit ks := by
            refine ⟨by rw [HS.out.1]; omega, fun j => ?_⟩
            by_cases hj : j < len1
            · exact HSM.out j hj
            · have : ks.getD j ByteArray.empty = ByteArray.empty := by simp [List.getD, show ks.length ≤ j by rw [HS.out.1]; omega]
              rw [this]; decide
          go_wp2_with fail
          refine (clone_any wc a0 len1 cap0 ks hl0 (HS.out.below HK.out.2)).mono ?_
          rintro e w2 ⟨a', c', rfl, hKy, hb2⟩
          go_wp2_with fail
          refine (first_index ks key _ w2 hfit hKy).mono ?_
          rintro e w3 ⟨rfl, rfl⟩
          have B3 : Hid (Below W.heap.size W w3) := HK.out.2.trans (hb2.mono HK.out.2.size)
          have HC3 : Hid (∀ j, j < kd.length → w3.cell? ⟨W.heap.size, j, none⟩ = some (.int .u8 (kd.getD j 0))) := by
            obtain ⟨h1, _⟩ | ⟨D, c, h1, h2, h3⟩ := HK.out.1
            · cases h1
            · simp only [Value.slice.injEq, Option.some.injEq, Addr.mk.injEq, and_true] at h1
              obtain ⟨rfl, _, _⟩ := h1
              exact fun j hj => (hb2.cell (p := ⟨W.heap.size, j, none⟩) h2).trans (h3 j hj)
          have hD3 : W.heap.size < w3.heap.size := by
            obtain ⟨h1, _⟩ | ⟨D, c, h1, h2, h3⟩ := HK.out.1
            · cases h1
            · simp only [Value.slice.injEq, Option.some.injEq, Addr.mk.injEq, and_true] at h1
              obtain ⟨rfl, _, _⟩ := h1
              exact Nat.lt_of_lt_of_le h2 hb2.size
          clear hb2
          cases hidx : idxOf ks key with
          | none =>
            rw [idxI_none hidx]
            have hfl : flagB ks kd key = false := by simp only [flagB, hidx]
            have hfa : failB ks kd key = false := by simp only [failB, hidx]
            go_wp2_with fail
            refine (new_any w3 (.slice a' len1 c') ks W.heap.size len1 kd (by rw [HS.out.1]; omega) (by rw [HS.out.1, HD.out.1]) a' len1 c' HS.out.1.symm rfl hKy hD3 HC3.out).mono ?_
            rintro e w4 ⟨F, V, U, rfl, hF4, hV4, hU4, hf4, hb4⟩
            have B4 : Hid (Below W.heap.size W w4) := B3.out.trans (hb4.mono B3.out.size)
            have HF4 : Hid (FieldsAt w4 F V U (.slice a' len1 c') ks kd (List.replicate ks.length false) .nilIface) := hf4
            clear hb4 hf4
            go_wp2_with fail
            refine (zflag_any F0 w4 (by rw [B4.out.tape]; exact hF0) F V U _ ks kd _ .nilIface false key HF4.out (Or.inl ⟨rfl, rfl⟩) hfit (by omega)).mono ?_
            rintro e w5 ⟨rfl, hm5, er5, he5, hf5⟩
            have B5 : Hid (Below W.heap.size W w5) := B4.out.trans (hm5.under (by have := B3.out.size; omega) (by have := B3.out.size; omega) B4.out.size)
            have HF5 : Hid (FieldsAt w5 F V U (.slice a' len1 c') ks kd (markB ks (List.replicate ks.length false) key) er5 ∧ ErAt er5 (false || failB ks kd key)) := ⟨hf5, he5⟩
            clear hm5 hf5 he5 HF4
            go_wp2_with fail
            refine (zflag_any F0 w5 (by rw [B5.out.tape]; exact hF0) F V U _ ks kd _ er5 _ key HF5.out.1 HF5.out.2 hfit (by omega)).mono ?_
            rintro e w6 ⟨rfl, hm6, er6, he6, hf6⟩
            have B6 : Hid (Below W.heap.size W w6) := B5.out.trans (hm6.under (by have := B3.out.size; omega) (by have := B3.out.size; omega) B5.out.size)
            have HF6 : Hid (FieldsAt w6 F V U (.slice a' len1 c') ks kd (markB ks (markB ks (List.replicate ks.length false) key) key) er6 ∧ ErAt er6 (failB ks kd key)) := ⟨hf6, by simpa using he6⟩
            clear hm6 hf6 he6 HF5 B5 B4
            go_wp2_with fail
            refine (used_any w6 F V U _ ks kd _ er6 HF6.out.1).mono ?_
            rintro e w7 ⟨rfl, rfl⟩
            rw [HS.out.1]
            go_wp2_with fail
            go_loop [17] (fun i => ∃ k : Nat, k ≤ len1 ∧ i = .int .i64 k) (fun i => len1 - (intOf i).toNat)
            case atStart => exact ⟨0, Nat.zero_le _, rfl⟩
            case round =>
              obtain ⟨m, hm, rfl⟩ := hrel
              by_cases hmlt : m < len1
              · have cu := used_cell HF6.out.1 (marks2 (key := key) (show m < ks.length by rw [HS.out.1]; exact hmlt))
                rw [hidx] at cu
                simp only [reduceCtorEq, decide_false] at cu
                go_wp2
                go_round
                case rel => exact ⟨m + 1, by omega, by go_num⟩
                case measure => simp [intOf]; omega
              · go_wp2_with (go_at_call 11; refine (failed_any w7 F V U _ ks kd _ er6 _ HF6.out.1 HF6.out.2).mono ?_; rintro e w8 ⟨rfl, rfl⟩)
                go_ret
                exact ⟨rfl, B6.out⟩
          | some i =>
            rw [idxI_some hidx]
            have hil : i < len1 := by have := idx_lt hidx; rw [HS.out.1] at this; exact this
            obtain ⟨kk, hkk⟩ : ∃ kk, kk = kd.getD i 0 := ⟨_, rfl⟩
            have ck : w3.cell? ⟨W.heap.size, i, none⟩ = some (.int .u8 kk) := by rw [hkk]; exact HC3.out i (by rw [HD.out.1]; exact hil)
            have hfl : flagB ks kd key = (kk == 116) := by simp only [flagB, hidx, hkk]
            have hfa : failB ks kd key = (kk != 116 && kk != 102) := by simp only [failB, hidx, hkk]
            clear hkk
            have hcase : kk = 116 ∨ kk = 102 ∨ ((kk == 116) = false ∧ (kk == 102) = false) := by
              by_cases h1 : kk = 116
              · exact Or.inl h1
              by_cases h2 : kk = 102
              · exact Or.inr (Or.inl h2)
              exact Or.inr (Or.inr ⟨beq_eq_false_iff_ne.2 h1, beq_eq_false_iff_ne.2 h2⟩)
            rcases hcase with rfl | rfl | ⟨q1, q2⟩
            · replace hfl : flagB ks kd key = true := hfl
              replace hfa : failB ks kd key = false := hfa
              go_wp2_with fail
              refine (new_any w3 (.slice a' len1 c') ks W.heap.size len1 kd (by rw [HS.out.1]; omega) (by rw [HS.out.1, HD.out.1]) a' len1 c' HS.out.1.symm rfl hKy hD3 HC3.out).mono ?_
              rintro e w4 ⟨F, V, U, rfl, hF4, hV4, hU4, hf4, hb4⟩
              have B4 : Hid (Below W.heap.size W w4) := B3.out.trans (hb4.mono B3.out.size)
              have HF4 : Hid (FieldsAt w4 F V U (.slice a' len1 c') ks kd (List.replicate ks.length false) .nilIface) := hf4
              clear hb4 hf4
              go_wp2_with fail
              refine (zflag_any F0 w4 (by rw [B4.out.tape]; exact hF0) F V U _ ks kd _ .nilIface false key HF4.out (Or.inl ⟨rfl, rfl⟩) hfit (by omega)).mono ?_
              rintro e w5 ⟨rfl, hm5, er5, he5, hf5⟩
              have B5 : Hid (Below W.heap.size W w5) := B4.out.trans (hm5.under (by have := B3.out.size; omega) (by have := B3.out.size; omega) B4.out.size)
              have HF5 : Hid (FieldsAt w5 F V U (.slice a' len1 c') ks kd (markB ks (List.replicate ks.length false) key) er5 ∧ ErAt er5 (false || failB ks kd key)) := ⟨hf5, he5⟩
              clear hm5 hf5 he5 HF4
              go_wp2_with fail
              refine (zflag_any F0 w5 (by rw [B5.out.tape]; exact hF0) F V U _ ks kd _ er5 _ key HF5.out.1 HF5.out.2 hfit (by omega)).mono ?_
              rintro e w6 ⟨rfl, hm6, er6, he6, hf6⟩
              have B6 : Hid (Below W.heap.size W w6) := B5.out.trans (hm6.under (by have := B3.out.size; omega) (by have := B3.out.size; omega) B5.out.size)
              have HF6 : Hid (FieldsAt w6 F V U (.slice a' len1 c') ks kd (markB ks (markB ks (List.replicate ks.length false) key) key) er6 ∧ ErAt er6 (failB ks kd key)) := ⟨hf6, by simpa using he6⟩
              clear hm6 hf6 he6 HF5 B5 B4
              go_wp2_with fail
              refine (used_any w6 F V U _ ks kd _ er6 HF6.out.1).mono ?_
              rintro e w7 ⟨rfl, rfl⟩
              rw [HS.out.1]
              go_wp2_with fail
              go_loop [17] (fun i => ∃ k : Nat, k ≤ len1 ∧ i = .int .i64 k) (fun i => len1 - (intOf i).toNat)
              case atStart => exact ⟨0, Nat.zero_le _, rfl⟩
              case round =>
                obtain ⟨m, hm, rfl⟩ := hrel
                by_cases hmlt : m < len1
                · have cu := used_cell HF6.out.1 (marks2 (key := key) (show m < ks.length by rw [HS.out.1]; exact hmlt))
                  rw [hidx] at cu
                  by_cases hmi : m = i
                  · subst hmi
                    simp only [decide_true] at cu
                    have hq : ((m : Int) == (m : Int)) = true := by simp
                    go_wp2
                    go_round
                    case rel => exact ⟨m + 1, by omega, by go_num⟩
                    case measure => simp [intOf]; omega
                  · have hne2 : ¬ i = m := fun e => hmi e.symm
                    simp only [Option.some.injEq, hne2, decide_false] at cu
                    have hq : ((m : Int) == (i : Int)) = false := by simp; omega
                    go_wp2
                    go_round
                    case rel => exact ⟨m + 1, by omega, by go_num⟩
                    case measure => simp [intOf]; omega
                · go_wp2_with (go_at_call 11; refine (failed_any w7 F V U _ ks kd _ er6 _ HF6.out.1 HF6.out.2).mono ?_; rintro e w8 ⟨rfl, rfl⟩)
                  go_ret
                  exact ⟨rfl, B6.out⟩
            · replace hfl : flagB ks kd key = false := hfl
              replace hfa : failB ks kd key = false := hfa
              go_wp2_with fail
              refine (new_any w3 (.slice a' len1 c') ks W.heap.size len1 kd (by rw [HS.out.1]; omega) (by rw [HS.out.1, HD.out.1]) a' len1 c' HS.out.1.symm rfl hKy hD3 HC3.out).mono ?_
              rintro e w4 ⟨F, V, U, rfl, hF4, hV4, hU4, hf4, hb4⟩
              have B4 : Hid (Below W.heap.size W w4) := B3.out.trans (hb4.mono B3.out.size)
              have HF4 : Hid (FieldsAt w4 F V U (.slice a' len1 c') ks kd (List.replicate ks.length false) .nilIface) := hf4
              clear hb4 hf4
              go_wp2_with fail
              refine (zflag_any F0 w4 (by rw [B4.out.tape]; exact hF0) F V U _ ks kd _ .nilIface false key HF4.out (Or.inl ⟨rfl, rfl⟩) hfit (by omega)).mono ?_
              rintro e w5 ⟨rfl, hm5, er5, he5, hf5⟩
              have B5 : Hid (Below W.heap.size W w5) := B4.out.trans (hm5.under (by have := B3.out.size; omega) (by have := B3.out.size; omega) B4.out.size)
              have HF5 : Hid (FieldsAt w5 F V U (.slice a' len1 c') ks kd (markB ks (List.replicate ks.length false) key) er5 ∧ ErAt er5 (false || failB ks kd key)) := ⟨hf5, he5⟩
              clear hm5 hf5 he5 HF4
              go_wp2_with fail
              refine (zflag_any F0 w5 (by rw [B5.out.tape]; exact hF0) F V U _ ks kd _ er5 _ key HF5.out.1 HF5.out.2 hfit (by omega)).mono ?_
              rintro e w6 ⟨rfl, hm6, er6, he6, hf6⟩
              have B6 : Hid (Below W.heap.size W w6) := B5.out.trans (hm6.under (by have := B3.out.size; omega) (by have := B3.out.size; omega) B5.out.size)
              have HF6 : Hid (FieldsAt w6 F V U (.slice a' len1 c') ks kd (markB ks (markB ks (List.replicate ks.length false) key) key) er6 ∧ ErAt er6 (failB ks kd key)) := ⟨hf6, by simpa using he6⟩
              clear hm6 hf6 he6 HF5 B5 B4
              go_wp2_with fail
              refine (used_any w6 F V U _ ks kd _ er6 HF6.out.1).mono ?_
              rintro e w7 ⟨rfl, rfl⟩
              rw [HS.out.1]
              go_wp2_with fail
              go_loop [17] (fun i => ∃ k : Nat, k ≤ len1 ∧ i = .int .i64 k) (fun i => len1 - (intOf i).toNat)
              case atStart => exact ⟨0, Nat.zero_le _, rfl⟩
              case round =>
                obtain ⟨m, hm, rfl⟩ := hrel
                by_cases hmlt : m < len1
                · have cu := used_cell HF6.out.1 (marks2 (key := key) (show m < ks.length by rw [HS.out.1]; exact hmlt))
                  rw [hidx] at cu
                  by_cases hmi : m = i
                  · subst hmi
                    simp only [decide_true] at cu
                    have hq : ((m : Int) == (m : Int)) = true := by simp
                    go_wp2
                    go_round
                    case rel => exact ⟨m + 1, by omega, by go_num⟩
                    case measure => simp [intOf]; omega
                  · have hne2 : ¬ i = m := fun e => hmi e.symm
                    simp only [Option.some.injEq, hne2, decide_false] at cu
                    have hq : ((m : Int) == (i : Int)) = false := by simp; omega
                    go_wp2
                    go_round
                    case rel => exact ⟨m + 1, by omega, by go_num⟩
                    case measure => simp [intOf]; omega
                · go_wp2_with (go_at_call 11; refine (failed_any w7 F V U _ ks kd _ er6 _ HF6.out.1 HF6.out.2).mono ?_; rintro e w8 ⟨rfl, rfl⟩)
                  go_ret
                  exact ⟨rfl, B6.out⟩
            · have q3 : (kk != 116) = true := by simp only [bne, q1]; rfl
              have q4 : (kk != 102) = true := by simp only [bne, q2]; rfl
              replace hfl : flagB ks kd key = false := hfl.trans q1
              replace hfa : failB ks kd key = true := hfa.trans (by rw [q3, q4]; rfl)
              go_wp2_with fail
              refine (new_any w3 (.slice a' len1 c') ks W.heap.size len1 kd (by rw [HS.out.1]; omega) (by rw [HS.out.1, HD.out.1]) a' len1 c' HS.out.1.symm rfl hKy hD3 HC3.out).mono ?_
              rintro e w4 ⟨F, V, U, rfl, hF4, hV4, hU4, hf4, hb4⟩
              have B4 : Hid (Below W.heap.size W w4) := B3.out.trans (hb4.mono B3.out.size)
              have HF4 : Hid (FieldsAt w4 F V U (.slice a' len1 c') ks kd (List.replicate ks.length false) .nilIface) := hf4
              clear hb4 hf4
              go_wp2_with fail
              refine (zflag_any F0 w4 (by rw [B4.out.tape]; exact hF0) F V U _ ks kd _ .nilIface false key HF4.out (Or.inl ⟨rfl, rfl⟩) hfit (by omega)).mono ?_
              rintro e w5 ⟨rfl, hm5, er5, he5, hf5⟩
              have B5 : Hid (Below W.heap.size W w5) := B4.out.trans (hm5.under (by have := B3.out.size; omega) (by have := B3.out.size; omega) B4.out.size)
              have HF5 : Hid (FieldsAt w5 F V U (.slice a' len1 c') ks kd (markB ks (List.replicate ks.length false) key) er5 ∧ ErAt er5 (false || failB ks kd key)) := ⟨hf5, he5⟩
              clear hm5 hf5 he5 HF4
              go_wp2_with fail
              refine (zflag_any F0 w5 (by rw [B5.out.tape]; exact hF0) F V U _ ks kd _ er5 _ key HF5.out.1 HF5.out.2 hfit (by omega)).mono ?_
              rintro e w6 ⟨rfl, hm6, er6, he6, hf6⟩
              have B6 : Hid (Below W.heap.size W w6) := B5.out.trans (hm6.under (by have := B3.out.size; omega) (by have := B3.out.size; omega) B5.out.size)
              have HF6 : Hid (FieldsAt w6 F V U (.slice a' len1 c') ks kd (markB ks (markB ks (List.replicate ks.length false) key) key) er6 ∧ ErAt er6 (failB ks kd key)) := ⟨hf6, by simpa using he6⟩
              clear hm6 hf6 he6 HF5 B5 B4
              go_wp2_with fail
              refine (used_any w6 F V U _ ks kd _ er6 HF6.out.1).mono ?_
              rintro e w7 ⟨rfl, rfl⟩
              rw [HS.out.1]
              go_wp2_with fail
              go_loop [17] (fun i => ∃ k : Nat, k ≤ len1 ∧ i = .int .i64 k) (fun i => len1 - (intOf i).toNat)
              case atStart => exact ⟨0, Nat.zero_le _, rfl⟩
              case round =>
                obtain ⟨m, hm, rfl⟩ := hrel
                by_cases hmlt : m < len1
                · have cu := used_cell HF6.out.1 (marks2 (key := key) (show m < ks.length by rw [HS.out.1]; exact hmlt))
                  rw [hidx] at cu
                  by_cases hmi : m = i
                  · subst hmi
                    simp only [decide_true] at cu
                    have hq : ((m : Int) == (m : Int)) = true := by simp
                    go_wp2
                    go_round
                    case rel => exact ⟨m + 1, by omega, by go_num⟩
                    case measure => simp [intOf]; omega
                  · have hne2 : ¬ i = m := fun e => hmi e.symm
                    simp only [Option.some.injEq, hne2, decide_false] at cu
                    have hq : ((m : Int) == (i : Int)) = false := by simp; omega
                    go_wp2
                    go_round
                    case rel => exact ⟨m + 1, by omega, by go_num⟩
                    case measure => simp [intOf]; omega
                · go_wp2_with (go_at_call 11; refine (failed_any w7 F V U _ ks kd _ er6 _ HF6.out.1 HF6.out.2).mono ?_; rintro e w8 ⟨rfl, rfl⟩)
                  go_ret
                  exact ⟨rfl, B6.out⟩
        · have hne : ((len1 : Int) != (len0 : Int)) = true := by simp; omega
          go_wp2
          go_ret
          exact ⟨rfl, HK.out.2⟩
      · go_wp2
        go_ret
        exact ⟨rfl, HK.out.2⟩
end
end Go.Proofs.Qxb6613560aFmt
