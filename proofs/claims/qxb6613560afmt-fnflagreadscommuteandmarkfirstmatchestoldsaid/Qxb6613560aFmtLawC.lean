/-
  THE SECOND LAW's WALK (function 4).
-/
import Derived.Test.Qxb6613560aFmtLawB
namespace Go.Proofs.Qxb6613560aFmt
open Go.RowKit Go.Extern.Stop Go.Stop Go.Extern

theorem mark_at {ks : List ByteArray} {us : List Bool} {key : ByteArray} {j : Nat} {b : Bool} (hj : us[j]? = some b) : (markB ks us key)[j]? = some (b || decide (idxOf ks key = some j)) := by
  unfold markB
  cases h : idxOf ks key with
  | none => simp [hj]
  | some i =>
    simp only
    have hl : j < us.length := (List.getElem?_eq_some_iff.1 hj).1
    by_cases e : i = j
    · subst e; simp [hl]
    · rw [List.getElem?_set_ne e, hj]; simp [e]
theorem marks12 {ks : List ByteArray} {k1 k2 : ByteArray} {j : Nat} (hj : j < ks.length) : (markB ks (markB ks (List.replicate ks.length false) k1) k2)[j]? = some (decide (idxOf ks k1 = some j) || decide (idxOf ks k2 = some j)) := by
  rw [mark_at (mark_at (b := false) (by simp [hj])), Bool.false_or]
/-- The index as Go tells it, against a place. -/
theorem eq_idx (ks : List ByteArray) (key : ByteArray) (m : Nat) : ((m : Int) == idxI ks key) = decide (idxOf ks key = some m) := by
  unfold idxI
  rw [Bool.eq_iff_iff]
  cases h : idxOf ks key with
  | none => simp only [beq_iff_eq, decide_eq_true_eq, reduceCtorEq]
  | some i => simp only [beq_iff_eq, decide_eq_true_eq, Option.some.injEq]; omega

/-- The three kinds of a key: there is none of the kind that is asked; it is a true flag; it is none. -/
theorem kinds3 (ks : List ByteArray) (kd : List Int) (key : ByteArray) :
    (idxI ks key = -1 ∧ flagB ks kd key = false ∧ failB ks kd key = false) ∨
    (∃ i : Nat, i < ks.length ∧ idxI ks key = (i : Int) ∧ kd.getD i 0 = 116 ∧ flagB ks kd key = true ∧ failB ks kd key = false) ∨
    ∃ (i : Nat) (kk : Int), i < ks.length ∧ idxI ks key = (i : Int) ∧ kd.getD i 0 = kk ∧ (kk == 116) = false ∧ (kk != 116) = true ∧ flagB ks kd key = false ∧ failB ks kd key = (kk != 102) := by
  cases h : idxOf ks key with
  | none => exact Or.inl ⟨idxI_none h, by simp only [flagB, h], by simp only [failB, h]⟩
  | some i =>
    right
    by_cases e : kd.getD i 0 = 116
    · exact Or.inl ⟨i, idx_lt h, idxI_some h, e, by simp only [flagB, h, e]; rfl, by simp only [failB, h, e]; rfl⟩
    · have e1 : (kd.getD i 0 == 116) = false := beq_eq_false_iff_ne.2 e
      have e2 : (kd.getD i 0 != 116) = true := by simp only [bne, e1]; rfl
      exact Or.inr ⟨i, _, idx_lt h, idxI_some h, rfl, e1, e2, by simp only [flagB, h, e1], by simp only [failB, h, e2, Bool.true_and]⟩

/-- The fields at F are untouched by what moves at G and U' beyond them. -/
theorem FieldsAt.moved {w w' : World} {F V U G U' B : Nat} {kv : Value} {ks : List ByteArray} {kd : List Int} {us : List Bool} {er : Value} (h : FieldsAt w F V U kv ks kd us er) (m : Moved G U' w w') (hB1 : B ≤ G) (hB2 : B ≤ U') (hF : F < B) (hV : V < B) (hU : U < B)
    (hK : ∀ K n c, kv = .slice (some ⟨K, 0, none⟩) n c → K < B) : FieldsAt w' F V U kv ks kd us er := by
  have bl : ∀ k, k < B → k < w.heap.size → w'.heap[k]? = w.heap[k]? := fun k hk hw => m.block k hw (by omega) (by omega)
  have cl : ∀ k o, k < B → k < w.heap.size → w'.cell? ⟨k, o, none⟩ = w.cell? ⟨k, o, none⟩ := fun k o hk hw => World.cell?_of_block (w := w) (bl k hk hw)
  refine ⟨(bl F hF (blk_lt h.blk)).trans h.blk, ?_, fun j hj => ⟨(cl V _ hV h.vlt).trans (h.vals j hj).1, (cl V _ hV h.vlt).trans (h.vals j hj).2⟩, (bl U hU (blk_lt h.used)).trans h.used, Nat.lt_of_lt_of_le h.vlt m.size, h.vne, h.ulen⟩
  rcases h.keys with h' | ⟨K, c, h1, h2, h3⟩
  · exact Or.inl h'
  · exact Or.inr ⟨K, c, h1, Nat.lt_of_lt_of_le h2 m.size, fun j hj => (cl K j (hK K _ _ h1) h2).trans (h3 j hj)⟩
theorem KeysAt.lt {w : World} {kv : Value} {ks : List ByteArray} (h : KeysAt w kv ks) : ∀ K n c, kv = .slice (some ⟨K, 0, none⟩) n c → K < w.heap.size := by
  intro K n c e
  rcases h with ⟨h, _⟩ | ⟨K', c', h1, h2, _⟩
  · rw [h] at e; cases e
  · rw [h1] at e
    simp only [Value.slice.injEq, Option.some.injEq, Addr.mk.injEq, and_true] at e
    rw [← e.1]; exact h2

section
variable (F0 : Interp) (w : World) (a0 : Option Addr) (len0 cap0 : Nat) (ks : List ByteArray) (x1 : Addr) (len1 cap1 : Nat) (kd : List Int) (k1 k2 : ByteArray)
set_option maxRecDepth 100000 in
set_option maxHeartbeats 4000000 in
theorem lawB_some (hF0 : F0.answers w.tape) (hS : StrsIn w a0 len0 ks) (hD : KindIn w (some x1) len1 kd) (hl0 : len0 ≤ 65536) (hl1 : len1 ≤ 1048576) (hk1 : k1.size ≤ 1048576) (hk2 : k2.size ≤ 1048576) :
    Calls Tryf.prog 4 #[.slice a0 len0 cap0, .slice (some x1) len1 cap1, .string k1, .string k2] w fun e w' => e = .returned (.bool true) ∧ Below w.heap.size w w' := by
  obtain ⟨i0, hi, hz0, hz1, hz2⟩ := info_parts Tryf.info5
  have hsz5 : (Tryf.prog.info? 5).map (·.size) = some 1 := by rw [hi]; simp [hz1]
  have hnil := fun w => run_neq_slice_nil_any (P := Tryf.prog) w 23 5 (some x1) len1 cap1 0 0 Tryf.underlying23
  have HB5 := bytes12 w a0 len0 cap0 ks (some x1) len1 cap1 k1 k2 hS (by omega) (by omega) (by omega)
  have HS : Hid (StrsIn w a0 len0 ks) := hS
  have HD : Hid (KindIn w (some x1) len1 kd) := hD
  obtain ⟨cs, hcs⟩ : ∃ cs, cs = kd.map (Value.int .u8) := ⟨_, rfl⟩
  have hcl : cs.length = len1 := by rw [hcs]; simp [hD.1]
  have HCS : Hid (cs = kd.map (Value.int .u8)) := hcs
  have HCC : Hid (∀ j v, cs[j]? = some v → w.cell? (x1.add j) = some v) := by
    intro j v hv
    rw [hcs] at hv
    obtain ⟨h1, h2, ⟨h3, _⟩ | ⟨x, h3, h4⟩⟩ := hD
    · cases h3
    · cases h3
      have hj : j < len1 := by have := (List.getElem?_eq_some_iff.1 hv).1; simpa [h1] using this
      rw [h4 j hj]
      simp [show j < kd.length by omega] at hv
      simp [List.getD, show j < kd.length by omega, hv]
  have HC1 : Hid (∀ v ∈ cs, v.oneCell' = true) := by
    intro v hv
    rw [hcs] at hv
    obtain ⟨n, _, rfl⟩ := List.mem_map.1 hv
    rfl
  clear hS hD hcs
  go_enter Tryf.func4, Tryf.ntmps4
  go_wp2_with fail
  refine HB5.mono ?_
  rintro e W ⟨rfl, b, rfl, hbt⟩
  cases b
  · go_wp2
    go_ret
    exact ⟨rfl, Below.refl _ _⟩
  have HSM : Hid (∀ j, j < len0 → (ks.getD j ByteArray.empty).size ≤ 1048576) := hbt rfl
  clear hbt HB5
  go_wp2_with (first
    | (at_make; refine wpList_make_full _ rfl (.tmp 56) (.tmp 56) 23 rfl W.heap.size 5 i0 (.int .u8 0) 1 Tryf.underlying23 hi hz0 hz1 .i64 .i64 _ _ len1 rfl rfl rfl rfl (by rw [hz2]; omega) (by unfold maxLen; omega) (Nat.le_refl _) ?_; intro wm hown hgrow)
    | (refine wpList_copy_splice rfl (.tmp 58) (.tmp 59) 23 23 rfl 5 Tryf.underlying23 hsz5 (some ⟨W.heap.size, 0, none⟩) (some x1) len1 len1 len1 cap1 rfl rfl W.heap.size 0 _ 5 (owned_block hown).2 cs (by rw [hcl]; exact (Nat.min_self _).symm) (fun _ => ⟨rfl, x1, rfl, fun j v hv => ((Below.refl _ W).grown hgrow (Nat.le_refl _) (fun _ h => by cases h)).cell (World.block_lt_of_cell? W _ (HCC.out j v hv)) |>.trans (HCC.out j v hv)⟩) (by rw [hcl]; simp [size_madeCells]) HC1.out W.heap.size W ((Below.refl _ W).grown hgrow (Nat.le_refl _) (fun _ h => by cases h)) (Nat.le_refl _) ?_; intro wc hgc hbc))
  have HK : Hid (KindsAt wc (.slice (some ⟨W.heap.size, 0, none⟩) len1 len1) kd ∧ Below W.heap.size W wc) := by
    have hg := hgc.out
    rw [HCS.out, copied (n := len1) (by simp [size_madeCells]) HD.out.1] at hg
    refine ⟨Or.inr ⟨W.heap.size, len1, by rw [HD.out.1], blk_lt hg, fun j hj => ?_⟩, hbc⟩
    rw [cell_of_row _ _ _ _ _ _ hg]
    simp [List.getD, hj]
  clear hown hgrow hgc hbc hnil HCC HC1 hcl HCS hsz5 hi hz0 hz1 hz2
  go_loop [10, 11] (fun t i => ∃ k n : Nat, k ≤ len0 ∧ i = .int .i64 k ∧ t = .int .i64 n ∧ n ≤ 3145728) (fun _ i => len0 - (intOf i).toNat)
  case atStart => exact ⟨0, len1 + k1.size + k2.size, Nat.zero_le _, rfl, by go_num, by omega⟩
  case round =>
    obtain ⟨k, n, hk, rfl, rfl, hn⟩ := hrel
    by_cases hlt : k < len0
    · obtain ⟨b0, off, rfl, hb0, hc⟩ := strs_at (HS.out.below HK.out.2) (by omega)
      obtain ⟨s, hs⟩ : ∃ s, s = ks.getD k ByteArray.empty := ⟨_, rfl⟩
      have c0 : wc.cell? ⟨b0, off + k, none⟩ = some (.string s) := by rw [hs]; exact hc k hlt
      have hsz : s.size ≤ 1048576 := by rw [hs]; exact HSM.out k hlt
      clear hs hc
      by_cases h2 : n + (16 + s.size) ≤ 1048576
      · go_wp2
        go_round
        case rel => exact ⟨k + 1, n + (16 + s.size), by omega, by go_num, by go_num, by omega⟩
        case measure => simp [intOf]; omega
      · go_wp2
        go_ret
        exact ⟨rfl, HK.out.2⟩
    · by_cases hnn : n ≤ 1048576
      · by_cases hlen : len1 = len0
        · subst hlen
          have hne : ((len1 : Int) != (len1 : Int)) = false := by simp
          have hfit : Fit ks := by
            refine ⟨by rw [HS.out.1]; omega, fun j => ?_⟩
            by_cases hj : j < len1
            · exact HSM.out j hj
            · have : ks.getD j ByteArray.empty = ByteArray.empty := by simp [List.getD, show ks.length ≤ j by rw [HS.out.1]; omega]
              rw [this]; decide
          go_wp2_with fail
          refine (clone_any wc a0 len1 cap0 ks hl0 (HS.out.below HK.out.2)).mono ?_
          rintro e w2 ⟨a', c', rfl, hKy, hb2⟩
          go_wp2_with fail
          refine (first_index ks k1 _ w2 hfit hKy).mono ?_
          rintro e w2' ⟨rfl, rfl⟩
          go_wp2_with fail
          refine (first_index ks k2 _ w2' hfit hKy).mono ?_
          rintro e w3 ⟨rfl, rfl⟩
          have B3 : Hid (Below W.heap.size W w3) := HK.out.2.trans (hb2.mono HK.out.2.size)
          have HC3 : Hid (∀ j, j < kd.length → w3.cell? ⟨W.heap.size, j, none⟩ = some (.int .u8 (kd.getD j 0))) := by
            obtain ⟨h1, _⟩ | ⟨D, c, h1, h2, h3⟩ := HK.out.1
            · cases h1
            · simp only [Value.slice.injEq, Option.some.injEq, Addr.mk.injEq, and_true] at h1
              obtain ⟨rfl, _, _⟩ := h1
              exact fun j hj => (hb2.cell (p := ⟨W.heap.size, j, none⟩) h2).trans (h3 j hj)
          have hD3 : W.heap.size < w3.heap.size := by
            obtain ⟨h1, _⟩ | ⟨D, c, h1, h2, h3⟩ := HK.out.1
            · cases h1
            · simp only [Value.slice.injEq, Option.some.injEq, Addr.mk.injEq, and_true] at h1
              obtain ⟨rfl, _, _⟩ := h1
              exact Nat.lt_of_lt_of_le h2 hb2.size
          have HKY : Hid (KeysAt w3 (.slice a' len1 c') ks) := hKy
          clear hb2 hKy
          have hkl : kd.length = len1 := HD.out.1
          have hksl : ks.length = len1 := HS.out.1
          rcases kinds3 ks kd k1 with ⟨I1, f1, g1⟩ | ⟨i1, il1, I1, e1, f1, g1⟩ | ⟨i1, kk1, il1, I1, e1, p1, q1, f1, g1⟩
          all_goals
            rcases kinds3 ks kd k2 with ⟨I2, f2, g2⟩ | ⟨i2, il2, I2, e2, f2, g2⟩ | ⟨i2, kk2, il2, I2, e2, p2, q2, f2, g2⟩
            all_goals
              rw [I1, I2]
              try (have c1 := HC3.out i1 (by omega); rw [e1] at c1; clear e1; rw [hksl] at il1)
              try (have c2 := HC3.out i2 (by omega); rw [e2] at c2; clear e2; rw [hksl] at il2)
              have HI1 : Hid (idxI ks k1 = _) := I1
              have HI2 : Hid (idxI ks k2 = _) := I2
              clear I1 I2
              have HL : Hid (ks.length = len1 ∧ kd.length = len1) := ⟨hksl, hkl⟩
              clear hksl hkl
              go_wp2_with fail
              refine (new_any w3 (.slice a' len1 c') ks W.heap.size len1 kd (by rw [HL.out.1]; omega) (by rw [HL.out.1, HL.out.2]) a' len1 c' HL.out.1.symm rfl HKY.out hD3 HC3.out).mono ?_
              rintro e w4 ⟨F, V, U, rfl, hF4, hV4, hU4, hf4, hb4⟩
              have hz3 := B3.out.size
              have B4 : Hid (Below W.heap.size W w4 ∧ KeysAt w4 (.slice a' len1 c') ks ∧ ∀ j, j < kd.length → w4.cell? ⟨W.heap.size, j, none⟩ = some (.int .u8 (kd.getD j 0))) := ⟨B3.out.trans (hb4.mono B3.out.size), HKY.out.below hb4, fun j hj => (hb4.cell (p := ⟨W.heap.size, j, none⟩) hD3).trans (HC3.out j hj)⟩
              have HF4 : Hid (FieldsAt w4 F V U (.slice a' len1 c') ks kd (List.replicate ks.length false) .nilIface) := hf4
              have hD4 : W.heap.size < w4.heap.size := Nat.lt_of_lt_of_le hD3 hb4.size
              have hz4 := hb4.size
              clear hb4 hf4 HC3 HKY
              try clear c1
              try clear c2
              go_wp2_with fail
              refine (zflag_any F0 w4 (by rw [B4.out.1.tape]; exact hF0) F V U _ ks kd _ .nilIface false k1 HF4.out (Or.inl ⟨rfl, rfl⟩) hfit (by omega)).mono ?_
              rintro e w5 ⟨rfl, hm5, er5, he5, hf5⟩
              have HF5 : Hid (FieldsAt w5 F V U (.slice a' len1 c') ks kd (markB ks (List.replicate ks.length false) k1) er5 ∧ ErAt er5 (false || failB ks kd k1) ∧ Moved F U w4 w5) := ⟨hf5, he5, hm5⟩
              clear hm5 hf5 he5 HF4
              go_wp2_with fail
              refine (zflag_any F0 w5 (by rw [HF5.out.2.2.tape, B4.out.1.tape]; exact hF0) F V U _ ks kd _ er5 _ k2 HF5.out.1 HF5.out.2.1 hfit (by omega)).mono ?_
              rintro e w6 ⟨rfl, hm6, er6, he6, hf6⟩
              have M6 := HF5.out.2.2.trans hm6
              have bk : ∀ k, k < w4.heap.size → k ≠ F → k ≠ U → w6.heap[k]? = w4.heap[k]? := M6.block
              have HF6 : Hid (FieldsAt w6 F V U (.slice a' len1 c') ks kd (markB ks (markB ks (List.replicate ks.length false) k1) k2) er6 ∧ ErAt er6 (failB ks kd k1 || failB ks kd k2) ∧ Below W.heap.size W w6 ∧ KeysAt w6 (.slice a' len1 c') ks ∧ W.heap.size < w6.heap.size ∧ ∀ j, j < kd.length → w6.cell? ⟨W.heap.size, j, none⟩ = some (.int .u8 (kd.getD j 0))) := by
                refine ⟨hf6, by simpa using he6, B4.out.1.trans (M6.under (by omega) (by omega) B4.out.1.size), hf6.keys, Nat.lt_of_lt_of_le hD4 M6.size, fun j hj => ?_⟩
                rw [World.cell?_of_block (w := w4) (bk W.heap.size hD4 (by omega) (by omega))]
                exact B4.out.2.2 j hj
              have hz6 := M6.size
              clear M6 bk hm6 hf6 he6 HF5 B4
              have hFl : F < w6.heap.size := blk_lt HF6.out.1.blk
              have hUl : U < w6.heap.size := blk_lt HF6.out.1.used
              have hVl : V < w6.heap.size := HF6.out.1.vlt
              go_wp2_with fail
              refine (new_any w6 (.slice a' len1 c') ks W.heap.size len1 kd (by rw [HL.out.1]; omega) (by rw [HL.out.1, HL.out.2]) a' len1 c' HL.out.1.symm rfl HF6.out.2.2.2.1 HF6.out.2.2.2.2.1 HF6.out.2.2.2.2.2).mono ?_
              rintro e w7 ⟨G, V', U', rfl, hF7, hV7, hU7, hf7, hb7⟩
              have HF7 : Hid (FieldsAt w7 G V' U' (.slice a' len1 c') ks kd (List.replicate ks.length false) .nilIface ∧ FieldsAt w7 F V U (.slice a' len1 c') ks kd (markB ks (markB ks (List.replicate ks.length false) k1) k2) er6 ∧ Below W.heap.size W w7) := ⟨hf7, HF6.out.1.below hb7, HF6.out.2.2.1.trans (hb7.mono HF6.out.2.2.1.size)⟩
              have HE6 : Hid (ErAt er6 (failB ks kd k1 || failB ks kd k2)) := HF6.out.2.1
              have hz7 := hb7.size
              have HKB : Hid (∀ K n c, Value.slice a' len1 c' = .slice (some ⟨K, 0, none⟩) n c → K < w6.heap.size) := HF6.out.2.2.2.1.lt
              clear hf7 hb7 HF6
              go_wp2_with fail
              refine (zflag_any F0 w7 (by rw [HF7.out.2.2.tape]; exact hF0) G V' U' _ ks kd _ .nilIface false k2 HF7.out.1 (Or.inl ⟨rfl, rfl⟩) hfit (by omega)).mono ?_
              rintro e w8 ⟨rfl, hm8, er8, he8, hf8⟩
              have HF8 : Hid (FieldsAt w8 G V' U' (.slice a' len1 c') ks kd (markB ks (List.replicate ks.length false) k2) er8 ∧ ErAt er8 (false || failB ks kd k2) ∧ Moved G U' w7 w8) := ⟨hf8, he8, hm8⟩
              clear hm8 hf8 he8
              go_wp2_with fail
              refine (zflag_any F0 w8 (by rw [HF8.out.2.2.tape, HF7.out.2.2.tape]; exact hF0) G V' U' _ ks kd _ er8 _ k1 HF8.out.1 HF8.out.2.1 hfit (by omega)).mono ?_
              rintro e w9 ⟨rfl, hm9, er9, he9, hf9⟩
              have M9 := HF8.out.2.2.trans hm9
              have HF9 : Hid (FieldsAt w9 G V' U' (.slice a' len1 c') ks kd (markB ks (markB ks (List.replicate ks.length false) k2) k1) er9 ∧ ErAt er9 (failB ks kd k1 || failB ks kd k2) ∧ FieldsAt w9 F V U (.slice a' len1 c') ks kd (markB ks (markB ks (List.replicate ks.length false) k1) k2) er6 ∧ Below W.heap.size W w9) := by
                refine ⟨hf9, ?_, HF7.out.2.1.moved M9 hF7 hU7 hFl hVl hUl HKB.out, HF7.out.2.2.trans (M9.under (by omega) (by omega) HF7.out.2.2.size)⟩
                simpa [Bool.or_comm] using he9
              clear M9 hm9 hf9 he9 HF8 HF7
              go_wp2_with fail
              refine (used_any w9 F V U _ ks kd _ er6 HF9.out.2.2.1).mono ?_
              rintro e w9' ⟨rfl, rfl⟩
              go_wp2_with fail
              refine (used_any w9' G V' U' _ ks kd _ er9 HF9.out.1).mono ?_
              rintro e wl ⟨rfl, rfl⟩
              rw [HL.out.1]
              go_wp2_with fail
              go_loop [26] (fun i => ∃ k : Nat, k ≤ len1 ∧ i = .int .i64 k) (fun i => len1 - (intOf i).toNat)
              case atStart => exact ⟨0, Nat.zero_le _, rfl⟩
              case round =>
                obtain ⟨m, hm, rfl⟩ := hrel
                by_cases hmlt : m < len1
                · have cu := used_cell HF9.out.2.2.1 (marks12 (k1 := k1) (k2 := k2) (show m < ks.length by rw [HL.out.1]; exact hmlt))
                  have cv := used_cell HF9.out.1 (marks12 (k1 := k2) (k2 := k1) (show m < ks.length by rw [HL.out.1]; exact hmlt))
                  have t1 := eq_idx ks k1 m
                  have t2 := eq_idx ks k2 m
                  rw [HI1.out] at t1
                  rw [HI2.out] at t2
                  cases d1 : decide (idxOf ks k1 = some m)
                  all_goals
                    cases d2 : decide (idxOf ks k2 = some m)
                    all_goals
                      rw [d1] at t1 cu cv
                      rw [d2] at t2 cu cv
                      simp only [Bool.or_false, Bool.or_true] at cu cv
                      clear d1 d2
                      first
                      | (exfalso; have t3 := eq_of_beq t1; omega)
                      | (exfalso; have t3 := eq_of_beq t2; omega)
                      | (go_wp2
                         go_round
                         case rel => exact ⟨m + 1, by omega, by go_num⟩
                         case measure => simp [intOf]; omega)
                · have HE9 := failed_any wl F V U _ ks kd _ er6 _ HF9.out.2.2.1 HE6.out
                  have HG9 := failed_any wl G V' U' _ ks kd _ er9 _ HF9.out.1 HF9.out.2.1
                  try (cases x1 : (kk1 != 102))
                  all_goals
                    go_wp2_with fail
                    refine HE9.mono ?_
                    rintro e wx ⟨rfl, rfl⟩
                    go_wp2_with fail
                    refine HG9.mono ?_
                    rintro e wy ⟨rfl, rfl⟩
                    go_wp2
                    go_ret
                    exact ⟨rfl, HF9.out.2.2.2⟩
        · have hne : ((len1 : Int) != (len0 : Int)) = true := by simp; omega
          go_wp2
          go_ret
          exact ⟨rfl, HK.out.2⟩
      · go_wp2
        go_ret
        exact ⟨rfl, HK.out.2⟩
end
end Go.Proofs.Qxb6613560aFmt
