/-
  THE FIRST LAW's WALK (function 3), the other ways, and all of them together.
-/
import Derived.Test.Qxb6613560aFmtLawA
namespace Go.Proofs.Qxb6613560aFmt
open Go.RowKit Go.Extern.Stop Go.Stop Go.Extern

section
variable (F0 : Interp) (w : World) (a0 : Option Addr) (len0 cap0 : Nat) (ks : List ByteArray) (key : ByteArray)
set_option maxRecDepth 100000 in
set_option maxHeartbeats 4000000 in
theorem lawA_nil (hF0 : F0.answers w.tape) (hS : StrsIn w a0 len0 ks) (hl0 : len0 ≤ 65536) (hkey : key.size ≤ 1048576) :
    Calls Tryf.prog 3 #[.slice a0 len0 cap0, .slice none 0 0, .string key] w fun e w' => e = .returned (.bool true) ∧ Below w.heap.size w w' := by
  have hnil := fun w => run_neq_slice_nil_any (P := Tryf.prog) w 23 5 none 0 0 0 0 Tryf.underlying23
  have HB5 := bytes5 w a0 len0 cap0 ks none 0 0 key hS (by omega) (by omega)
  have HS : Hid (StrsIn w a0 len0 ks) := hS
  clear hS
  go_enter Tryf.func3, Tryf.ntmps3
  go_wp2_with fail
  refine HB5.mono ?_
  rintro e W ⟨rfl, b, rfl, hbt⟩
  cases b
  · go_wp2
    go_ret
    exact ⟨rfl, Below.refl _ _⟩
  have HSM : Hid (∀ j, j < len0 → (ks.getD j ByteArray.empty).size ≤ 1048576) := hbt rfl
  clear hbt HB5
  go_wp2
  go_loop [8, 9] (fun t i => ∃ k n : Nat, k ≤ len0 ∧ i = .int .i64 k ∧ t = .int .i64 n ∧ n ≤ 2097152) (fun _ i => len0 - (intOf i).toNat)
  case atStart => exact ⟨0, key.size, Nat.zero_le _, rfl, by go_num, by omega⟩
  case round =>
    obtain ⟨k, n, hk, rfl, rfl, hn⟩ := hrel
    by_cases hlt : k < len0
    · obtain ⟨b0, off, rfl, hb0, hc⟩ := strs_at HS.out (by omega)
      obtain ⟨s, hs⟩ : ∃ s, s = ks.getD k ByteArray.empty := ⟨_, rfl⟩
      have c0 : W.cell? ⟨b0, off + k, none⟩ = some (.string s) := by rw [hs]; exact hc k hlt
      have hsz : s.size ≤ 1048576 := by rw [hs]; exact HSM.out k hlt
      clear hs hc
      by_cases h2 : n + (16 + s.size) ≤ 1048576
      · go_wp2
        go_round
        case rel => exact ⟨k + 1, n + (16 + s.size), by omega, by go_num, by go_num, by omega⟩
        case measure => simp [intOf]; omega
      · go_wp2
        go_ret
        exact ⟨rfl, Below.refl _ _⟩
    · by_cases hnn : n ≤ 1048576
      · by_cases hlen : len0 = 0
        · subst hlen
          have hks : ks = [] := List.length_eq_zero_iff.1 HS.out.1
          subst hks
          have hfit : Fit [] := ⟨by simp, fun j => by show ByteArray.empty.size ≤ _; decide⟩
          have hfl : flagB [] [] key = false := rfl
          have hfa : failB [] [] key = false := rfl
          clear hnil
          go_wp2_with fail
          refine (clone_any W a0 0 cap0 [] (by omega) HS.out).mono ?_
          rintro e w2 ⟨a', c', rfl, hKy, hb2⟩
          go_wp2_with fail
          refine (first_index [] key _ w2 hfit hKy).mono ?_
          rintro e w3 ⟨rfl, rfl⟩
          rw [show idxI [] key = -1 from rfl]
          go_wp2_with fail
          refine (new_nil w3 a' c' hKy).mono ?_
          rintro e w4 ⟨F, V, U, rfl, hF4, hV4, hU4, hf4, hb4⟩
          have B4 : Hid (Below W.heap.size W w4) := hb2.trans (hb4.mono hb2.size)
          have HF4 : Hid (FieldsAt w4 F V U (.slice a' 0 c') [] [] (List.replicate 0 false) .nilIface) := hf4
          have hz3 := hb2.size
          clear hb4 hf4 hb2
          go_wp2_with fail
          refine (zflag_any F0 w4 (by rw [B4.out.tape]; exact hF0) F V U _ [] [] _ .nilIface false key HF4.out (Or.inl ⟨rfl, rfl⟩) hfit (by omega)).mono ?_
          rintro e w5 ⟨rfl, hm5, er5, he5, hf5⟩
          have B5 : Hid (Below W.heap.size W w5) := B4.out.trans (hm5.under (by omega) (by omega) B4.out.size)
          have HF5 : Hid (FieldsAt w5 F V U (.slice a' 0 c') [] [] (markB [] (List.replicate 0 false) key) er5 ∧ ErAt er5 (false || failB [] [] key)) := ⟨hf5, he5⟩
          clear hm5 hf5 he5 HF4
          go_wp2_with fail
          refine (zflag_any F0 w5 (by rw [B5.out.tape]; exact hF0) F V U _ [] [] _ er5 _ key HF5.out.1 HF5.out.2 hfit (by omega)).mono ?_
          rintro e w6 ⟨rfl, hm6, er6, he6, hf6⟩
          have B6 : Hid (Below W.heap.size W w6) := B5.out.trans (hm6.under (by omega) (by omega) B5.out.size)
          have HF6 : Hid (FieldsAt w6 F V U (.slice a' 0 c') [] [] (markB [] (markB [] (List.replicate 0 false) key) key) er6 ∧ ErAt er6 (failB [] [] key)) := ⟨hf6, by simpa using he6⟩
          clear hm6 hf6 he6 HF5 B5 B4
          go_wp2_with fail
          refine (used_any w6 F V U _ [] [] _ er6 HF6.out.1).mono ?_
          rintro e w7 ⟨rfl, rfl⟩
          rw [show ([] : List ByteArray).length = 0 from rfl]
          go_wp2_with fail
          refine wp_loop_rounds 1 ?_
          rw [rounds_succ]
          go_wp2_with (go_at_call 11; refine (failed_any w7 F V U _ [] [] _ er6 _ HF6.out.1 HF6.out.2).mono ?_; rintro e w8 ⟨rfl, rfl⟩)
          go_ret
          exact ⟨rfl, B6.out⟩
        · have hne : ((0 : Int) != (len0 : Int)) = true := by simp; omega
          go_wp2
          go_ret
          exact ⟨rfl, Below.refl _ _⟩
      · go_wp2
        go_ret
        exact ⟨rfl, Below.refl _ _⟩

set_option maxHeartbeats 1000000 in
theorem lawA_short (a1 : Option Addr) (len1 cap1 : Nat) (hS : StrsIn w a0 len0 ks) (hl1 : len1 ≤ 9223372036854775807) (hk : key.size ≤ 9223372036854775807) (hbad : 65536 < len0 ∨ 1048576 < len1 ∨ 1048576 < key.size) :
    Calls Tryf.prog 3 #[.slice a0 len0 cap0, .slice a1 len1 cap1, .string key] w fun e w' => e = .returned (.bool true) ∧ Below w.heap.size w w' := by
  have HB5 := bytes5 w a0 len0 cap0 ks a1 len1 cap1 key hS (by omega) (by omega)
  have hll := hS.2.1
  clear hS
  have hb' : 65536 < len0 ∨ (len0 ≤ 65536 ∧ 1048576 < len1) ∨ (len0 ≤ 65536 ∧ len1 ≤ 1048576 ∧ 1048576 < key.size) := by omega
  clear hbad
  rcases hb' with h | ⟨h, h'⟩ | ⟨h, h', h''⟩
  all_goals
    go_enter Tryf.func3, Tryf.ntmps3
    go_wp2_with fail
    refine HB5.mono ?_
    rintro e W ⟨rfl, b, rfl, hbt⟩
    clear hbt
    cases b
    all_goals
      go_wp2
      go_ret
      exact ⟨rfl, Below.refl _ _⟩

theorem lawA_any (a1 : Option Addr) (len1 cap1 : Nat) (kd : List Int) (hF0 : F0.answers w.tape) (hS : StrsIn w a0 len0 ks) (hD : KindIn w a1 len1 kd) (hc : a1 = none → cap1 = 0) (hk : key.size ≤ 9223372036854775807) :
    Calls Tryf.prog 3 #[.slice a0 len0 cap0, .slice a1 len1 cap1, .string key] w fun e w' => e = .returned (.bool true) ∧ Below w.heap.size w w' := by
  by_cases h : len0 ≤ 65536 ∧ len1 ≤ 1048576 ∧ key.size ≤ 1048576
  · obtain ⟨h1, h2, h3⟩ := h
    cases a1 with
    | none =>
      obtain ⟨_, _, ⟨_, rfl⟩ | ⟨x, hx, _⟩⟩ := hD
      · obtain rfl := hc rfl
        exact lawA_nil F0 w a0 len0 cap0 ks key hF0 hS h1 h3
      · cases hx
    | some x1 => exact lawA_some F0 w a0 len0 cap0 ks x1 len1 cap1 kd key hF0 hS hD h1 h2 h3
  · exact lawA_short w a0 len0 cap0 ks key a1 len1 cap1 hS hD.2.1 hk (by omega)
end
end Go.Proofs.Qxb6613560aFmt
