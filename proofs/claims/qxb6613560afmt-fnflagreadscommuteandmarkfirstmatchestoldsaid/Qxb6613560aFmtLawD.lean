/-
  THE SECOND LAW's WALK (function 4), the other ways, and all of them together.
-/
import Derived.Test.Qxb6613560aFmtLawC
namespace Go.Proofs.Qxb6613560aFmt
open Go.RowKit Go.Extern.Stop Go.Stop Go.Extern

section
variable (F0 : Interp) (w : World) (a0 : Option Addr) (len0 cap0 : Nat) (ks : List ByteArray) (k1 k2 : ByteArray)
set_option maxRecDepth 100000 in
set_option maxHeartbeats 4000000 in
theorem lawB_nil (hF0 : F0.answers w.tape) (hS : StrsIn w a0 len0 ks) (hl0 : len0 ≤ 65536) (hk1 : k1.size ≤ 1048576) (hk2 : k2.size ≤ 1048576) :
    Calls Tryf.prog 4 #[.slice a0 len0 cap0, .slice none 0 0, .string k1, .string k2] w fun e w' => e = .returned (.bool true) ∧ Below w.heap.size w w' := by
  have hnil := fun w => run_neq_slice_nil_any (P := Tryf.prog) w 23 5 none 0 0 0 0 Tryf.underlying23
  have HB5 := bytes12 w a0 len0 cap0 ks none 0 0 k1 k2 hS (by omega) (by omega) (by omega)
  have HS : Hid (StrsIn w a0 len0 ks) := hS
  clear hS
  go_enter Tryf.func4, Tryf.ntmps4
  go_wp2_with fail
  refine HB5.mono ?_
  rintro e W ⟨rfl, b, rfl, hbt⟩
  cases b
  · go_wp2
    go_ret
    exact ⟨rfl, Below.refl _ _⟩
  have HSM : Hid (∀ j, j < len0 → (ks.getD j ByteArray.empty).size ≤ 1048576) := hbt rfl
  clear hbt HB5
  go_wp2
  go_loop [10, 11] (fun t i => ∃ k n : Nat, k ≤ len0 ∧ i = .int .i64 k ∧ t = .int .i64 n ∧ n ≤ 3145728) (fun _ i => len0 - (intOf i).toNat)
  case atStart => exact ⟨0, k1.size + k2.size, Nat.zero_le _, rfl, by go_num, by omega⟩
  case round =>
    obtain ⟨k, n, hk, rfl, rfl, hn⟩ := hrel
    by_cases hlt : k < len0
    · obtain ⟨b0, off, rfl, hb0, hc⟩ := strs_at HS.out (by omega)
      obtain ⟨s, hs⟩ : ∃ s, s = ks.getD k ByteArray.empty := ⟨_, rfl⟩
      have c0 : W.cell? ⟨b0, off + k, none⟩ = some (.string s) := by rw [hs]; exact hc k hlt
      have hsz : s.size ≤ 1048576 := by rw [hs]; exact HSM.out k hlt
      clear hs hc
      by_cases h2 : n + (16 + s.size) ≤ 1048576
      · go_wp2
        go_round
        case rel => exact ⟨k + 1, n + (16 + s.size), by omega, by go_num, by go_num, by omega⟩
        case measure => simp [intOf]; omega
      · go_wp2
        go_ret
        exact ⟨rfl, Below.refl _ _⟩
    · by_cases hnn : n ≤ 1048576
      · by_cases hlen : len0 = 0
        · subst hlen
          have hks : ks = [] := List.length_eq_zero_iff.1 HS.out.1
          subst hks
          have hfit : Fit [] := ⟨by simp, fun j => by show ByteArray.empty.size ≤ _; decide⟩
          have hfl1 : flagB [] [] k1 = false := rfl
          have hfa1 : failB [] [] k1 = false := rfl
          have hfl2 : flagB [] [] k2 = false := rfl
          have hfa2 : failB [] [] k2 = false := rfl
          clear hnil
          go_wp2_with fail
          refine (clone_any W a0 0 cap0 [] (by omega) HS.out).mono ?_
          rintro e w2 ⟨a', c', rfl, hKy, hb2⟩
          go_wp2_with fail
          refine (first_index [] k1 _ w2 hfit hKy).mono ?_
          rintro e w2' ⟨rfl, rfl⟩
          rw [show idxI [] k1 = -1 from rfl]
          go_wp2_with fail
          refine (first_index [] k2 _ w2' hfit hKy).mono ?_
          rintro e w3 ⟨rfl, rfl⟩
          rw [show idxI [] k2 = -1 from rfl]
          go_wp2_with fail
          refine (new_nil w3 a' c' hKy).mono ?_
          rintro e w4 ⟨F, V, U, rfl, hF4, hV4, hU4, hf4, hb4⟩
          have B4 : Hid (Below W.heap.size W w4) := hb2.trans (hb4.mono hb2.size)
          have HF4 : Hid (FieldsAt w4 F V U (.slice a' 0 c') [] [] (List.replicate 0 false) .nilIface) := hf4
          have hz3 := hb2.size
          clear hb4 hf4 hb2
          go_wp2_with fail
          refine (zflag_any F0 w4 (by rw [B4.out.tape]; exact hF0) F V U _ [] [] _ .nilIface false k1 HF4.out (Or.inl ⟨rfl, rfl⟩) hfit (by omega)).mono ?_
          rintro e w5 ⟨rfl, hm5, er5, he5, hf5⟩
          have B5 : Hid (Below W.heap.size W w5) := B4.out.trans (hm5.under (by omega) (by omega) B4.out.size)
          have HF5 : Hid (FieldsAt w5 F V U (.slice a' 0 c') [] [] (markB [] (List.replicate 0 false) k1) er5 ∧ ErAt er5 (false || failB [] [] k1)) := ⟨hf5, he5⟩
          clear hm5 hf5 he5 HF4
          go_wp2_with fail
          refine (zflag_any F0 w5 (by rw [B5.out.tape]; exact hF0) F V U _ [] [] _ er5 _ k2 HF5.out.1 HF5.out.2 hfit (by omega)).mono ?_
          rintro e w6 ⟨rfl, hm6, er6, he6, hf6⟩
          have B6 : Hid (Below W.heap.size W w6) := B5.out.trans (hm6.under (by omega) (by omega) B5.out.size)
          have HF6 : Hid (FieldsAt w6 F V U (.slice a' 0 c') [] [] (markB [] (markB [] (List.replicate 0 false) k1) k2) er6 ∧ ErAt er6 false) := ⟨hf6, by simpa [hfa1, hfa2] using he6⟩
          clear hm6 hf6 he6 HF5 B5 B4
          have hFl : F < w6.heap.size := blk_lt HF6.out.1.blk
          have hUl : U < w6.heap.size := blk_lt HF6.out.1.used
          have hVl : V < w6.heap.size := HF6.out.1.vlt
          go_wp2_with fail
          refine (new_nil w6 a' c' HF6.out.1.keys).mono ?_
          rintro e w7 ⟨G, V', U', rfl, hF7, hV7, hU7, hf7, hb7⟩
          have HF7 : Hid (FieldsAt w7 G V' U' (.slice a' 0 c') [] [] (List.replicate 0 false) .nilIface ∧ FieldsAt w7 F V U (.slice a' 0 c') [] [] (markB [] (markB [] (List.replicate 0 false) k1) k2) er6 ∧ Below W.heap.size W w7) := ⟨hf7, HF6.out.1.below hb7, B6.out.trans (hb7.mono B6.out.size)⟩
          have HE6 : Hid (ErAt er6 false) := HF6.out.2
          have HKB : Hid (∀ K n c, Value.slice a' 0 c' = .slice (some ⟨K, 0, none⟩) n c → K < w6.heap.size) := HF6.out.1.keys.lt
          have hz6 := B6.out.size
          have hz7 := hb7.size
          clear hf7 hb7 HF6 B6
          go_wp2_with fail
          refine (zflag_any F0 w7 (by rw [HF7.out.2.2.tape]; exact hF0) G V' U' _ [] [] _ .nilIface false k2 HF7.out.1 (Or.inl ⟨rfl, rfl⟩) hfit (by omega)).mono ?_
          rintro e w8 ⟨rfl, hm8, er8, he8, hf8⟩
          have HF8 : Hid (FieldsAt w8 G V' U' (.slice a' 0 c') [] [] (markB [] (List.replicate 0 false) k2) er8 ∧ ErAt er8 (false || failB [] [] k2) ∧ Moved G U' w7 w8) := ⟨hf8, he8, hm8⟩
          clear hm8 hf8 he8
          go_wp2_with fail
          refine (zflag_any F0 w8 (by rw [HF8.out.2.2.tape, HF7.out.2.2.tape]; exact hF0) G V' U' _ [] [] _ er8 _ k1 HF8.out.1 HF8.out.2.1 hfit (by omega)).mono ?_
          rintro e w9 ⟨rfl, hm9, er9, he9, hf9⟩
          have M9 := HF8.out.2.2.trans hm9
          have HF9 : Hid (FieldsAt w9 G V' U' (.slice a' 0 c') [] [] (markB [] (markB [] (List.replicate 0 false) k2) k1) er9 ∧ ErAt er9 false ∧ FieldsAt w9 F V U (.slice a' 0 c') [] [] (markB [] (markB [] (List.replicate 0 false) k1) k2) er6 ∧ Below W.heap.size W w9) := by
            refine ⟨hf9, ?_, HF7.out.2.1.moved M9 hF7 hU7 hFl hVl hUl HKB.out, HF7.out.2.2.trans (M9.under (by omega) (by omega) HF7.out.2.2.size)⟩
            simpa [hfa1, hfa2] using he9
          clear M9 hm9 hf9 he9 HF8 HF7
          go_wp2_with fail
          refine (used_any w9 F V U _ [] [] _ er6 HF9.out.2.2.1).mono ?_
          rintro e w9' ⟨rfl, rfl⟩
          go_wp2_with fail
          refine (used_any w9' G V' U' _ [] [] _ er9 HF9.out.1).mono ?_
          rintro e wl ⟨rfl, rfl⟩
          rw [show ([] : List ByteArray).length = 0 from rfl]
          have HE9 := failed_any wl F V U _ [] [] _ er6 _ HF9.out.2.2.1 HE6.out
          have HG9 := failed_any wl G V' U' _ [] [] _ er9 _ HF9.out.1 HF9.out.2.1
          go_wp2_with fail
          refine wp_loop_rounds 1 ?_
          rw [rounds_succ]
          go_wp2_with fail
          refine HE9.mono ?_
          rintro e wx ⟨rfl, rfl⟩
          go_wp2_with fail
          refine HG9.mono ?_
          rintro e wy ⟨rfl, rfl⟩
          go_wp2
          go_ret
          exact ⟨rfl, HF9.out.2.2.2⟩
        · have hne : ((0 : Int) != (len0 : Int)) = true := by simp; omega
          go_wp2
          go_ret
          exact ⟨rfl, Below.refl _ _⟩
      · go_wp2
        go_ret
        exact ⟨rfl, Below.refl _ _⟩

set_option maxRecDepth 100000 in
set_option maxHeartbeats 4000000 in
theorem lawB_short (a1 : Option Addr) (len1 cap1 : Nat) (hS : StrsIn w a0 len0 ks) (hl1 : len1 ≤ 9223372036854775807) (hk1 : k1.size ≤ 9223372036854775807) (hk2 : k2.size ≤ 9223372036854775807) (hbad : 65536 < len0 ∨ 1048576 < len1 ∨ 1048576 < k1.size ∨ 1048576 < k2.size) :
    Calls Tryf.prog 4 #[.slice a0 len0 cap0, .slice a1 len1 cap1, .string k1, .string k2] w fun e w' => e = .returned (.bool true) ∧ Below w.heap.size w w' := by
  have HB5 := bytes12 w a0 len0 cap0 ks a1 len1 cap1 k1 k2 hS (by omega) (by omega) (by omega)
  have hll := hS.2.1
  clear hS
  have hb' : 65536 < len0 ∨ (len0 ≤ 65536 ∧ 1048576 < len1) ∨ (len0 ≤ 65536 ∧ len1 ≤ 1048576 ∧ 1048576 < k1.size) ∨ (len0 ≤ 65536 ∧ len1 ≤ 1048576 ∧ k1.size ≤ 1048576 ∧ 1048576 < k2.size) := by omega
  clear hbad
  rcases hb' with h | ⟨h, h'⟩ | ⟨h, h', h''⟩ | ⟨h, h', h'', h3⟩
  all_goals
    go_enter Tryf.func4, Tryf.ntmps4
    go_wp2_with fail
    refine HB5.mono ?_
    rintro e W ⟨rfl, b, rfl, hbt⟩
    clear hbt
    cases b
    all_goals
      go_wp2
      go_ret
      exact ⟨rfl, Below.refl _ _⟩

theorem lawB_any (a1 : Option Addr) (len1 cap1 : Nat) (kd : List Int) (hF0 : F0.answers w.tape) (hS : StrsIn w a0 len0 ks) (hD : KindIn w a1 len1 kd) (hc : a1 = none → cap1 = 0) (hk1 : k1.size ≤ 9223372036854775807) (hk2 : k2.size ≤ 9223372036854775807) :
    Calls Tryf.prog 4 #[.slice a0 len0 cap0, .slice a1 len1 cap1, .string k1, .string k2] w fun e w' => e = .returned (.bool true) ∧ Below w.heap.size w w' := by
  by_cases h : len0 ≤ 65536 ∧ len1 ≤ 1048576 ∧ k1.size ≤ 1048576 ∧ k2.size ≤ 1048576
  · obtain ⟨h1, h2, h3, h4⟩ := h
    cases a1 with
    | none =>
      obtain ⟨_, _, ⟨_, rfl⟩ | ⟨x, hx, _⟩⟩ := hD
      · obtain rfl := hc rfl
        exact lawB_nil F0 w a0 len0 cap0 ks k1 k2 hF0 hS h1 h3 h4
      · cases hx
    | some x1 => exact lawB_some F0 w a0 len0 cap0 ks x1 len1 cap1 kd k1 k2 hF0 hS hD h1 h2 h3 h4
  · exact lawB_short w a0 len0 cap0 ks k1 k2 a1 len1 cap1 hS hD.2.1 hk1 hk2 (by omega)
end
end Go.Proofs.Qxb6613560aFmt
