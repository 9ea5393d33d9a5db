/-
  sameKey (18), get$1 (17), slices.IndexFunc (16), zzFirstIndex (7) BY THEIR CONTRACTS.
-/
import Derived.Test.Qxb6613560aFmtFacts
import Derived.Test.Qxb6613560aFmtPlain
import Derived.Deep.QuietTactic
import Derived.BigQuiet
namespace Go.Proofs.Qxb6613560aFmt
open Go.RowKit

theorem eq_bytes (a b : ByteArray) : (a.toList == b.toList) = decide (a = b) := by
  rw [ByteArray.toList_eq, ByteArray.toList_eq, Bool.eq_iff_iff]
  simp only [beq_iff_eq, decide_eq_true_eq]
  constructor
  · intro h
    obtain ⟨⟨x⟩⟩ := a
    obtain ⟨⟨y⟩⟩ := b
    simp at h
    rw [h]
  · intro h; rw [h]
theorem empty_bytes {a : ByteArray} (h : a.size = 0) : a = ⟨#[]⟩ := by
  obtain ⟨⟨x⟩⟩ := a
  have : x.length = 0 := h
  rw [List.length_eq_zero_iff.1 this]
theorem isEmpty_bytes {a : ByteArray} (h : 0 < a.size) : a.toList.isEmpty = false := by
  rw [ByteArray.toList_eq]
  obtain ⟨⟨x⟩⟩ := a
  have : 0 < x.length := h
  cases x with
  | nil => simp at this
  | cons a l => rfl
theorem ne_first {a b : ByteArray} (ha : 0 < a.size) (hb : 0 < b.size) (h : ((a[0].toNat : Int) == (b[0].toNat : Int)) = false) : decide (a = b) = false := by
  rw [decide_eq_false_iff_not]
  intro e
  subst e
  simp at h

theorem same_any (a b : ByteArray) (w : World) (ha : a.size ≤ 9223372036854775807) (hb : b.size ≤ 9223372036854775807) :
    Calls Tryf.prog 18 #[.string a, .string b] w fun e w' => e = .returned (.bool (decide (a = b))) ∧ ∃ n, w' = w.drewN n := by
  by_cases h1 : a.size = b.size
  · by_cases h2 : a.size = 0
    · have e1 := empty_bytes h2
      have e2 := empty_bytes (h1.symm.trans h2)
      subst e1 e2
      clear h1 h2 ha hb
      go_enter Tryf.func18, Tryf.ntmps18
      go_wp2
      go_quiet (fail)
      go_wp2
      go_ret
      exact ⟨rfl, _, rfl⟩
    · have h3 : 0 < a.size := by omega
      have h4 : 0 < b.size := by omega
      have he' := isEmpty_bytes h3
      have hq := eq_bytes a b
      have h1' : ((a.size : Int) == (b.size : Int)) = true := by simp [h1]
      have h30 : (0 : Int) < (a.size : Int) := by omega
      have h40 : (0 : Int) < (b.size : Int) := by omega
      clear h1
      cases h5 : ((a[0].toNat : Int) == (b[0].toNat : Int))
      · have hn := ne_first h3 h4 h5
        go_enter Tryf.func18, Tryf.ntmps18
        go_wp2
        go_quiet (fail)
        go_wp2
        go_ret
        exact ⟨by rw [hn]; rfl, _, rfl⟩
      · go_enter Tryf.func18, Tryf.ntmps18
        go_wp2
        go_quiet (fail)
        go_wp2
        go_ret
        exact ⟨rfl, _, rfl⟩
  · have h1' : ((a.size : Int) == (b.size : Int)) = false := by simp; omega
    have hn : decide (a = b) = false := by rw [decide_eq_false_iff_not]; intro e; exact h1 (by rw [e])
    clear h1
    go_enter Tryf.func18, Tryf.ntmps18
    go_wp2
    go_quiet (fail)
    go_wp2
    go_ret
    exact ⟨by rw [hn]; rfl, _, rfl⟩

/-- The closure: its own parameter first, then the variable that it captured. -/
theorem same_clos (k key : ByteArray) (c : Nat) (w : World) (hk : k.size ≤ 9223372036854775807) (hkey : key.size ≤ 9223372036854775807) (hc : w.cell? ⟨c, 0, none⟩ = some (.string key)) :
    Calls Tryf.prog 17 #[.string k, .pointer (some ⟨c, 0, none⟩)] w fun e w' => e = .returned (.bool (decide (k = key))) ∧ ∃ n, w' = w.drewN n := by
  go_enter Tryf.func17, Tryf.ntmps17
  go_wp2_with (go_at_call 18; refine (same_any _ _ _ hk hkey).mono ?_; rintro e w' ⟨rfl, n, rfl⟩)
  go_ret
  exact ⟨rfl, _, rfl⟩

/-- The keys as a slice of strings tells them. -/
def KeysAt (w : World) (kv : Value) (ks : List ByteArray) : Prop :=
  (kv = .slice none 0 0 ∧ ks = []) ∨ ∃ K c, kv = .slice (some ⟨K, 0, none⟩) ks.length c ∧ K < w.heap.size ∧ ∀ j, j < ks.length → w.cell? ⟨K, j, none⟩ = some (.string (ks.getD j ByteArray.empty))

/-- Every key is of a length that an int holds. -/
def Fit (ks : List ByteArray) : Prop := ks.length ≤ 65536 ∧ ∀ j, (ks.getD j ByteArray.empty).size ≤ 1048576

theorem ret_int {k : IntKind} {a b : Int} (h : a = b) : Ending.returned (.int k a) = .returned (.int k b) := by rw [h]

theorem index_clos (ks : List ByteArray) (key : ByteArray) (kv : Value) (c : Nat) (w : World) (hfit : Fit ks) (hkey : key.size ≤ 9223372036854775807) (hK : KeysAt w kv ks) (hc : w.cell? ⟨c, 0, none⟩ = some (.string key)) :
    Calls Tryf.prog 16 #[kv, .func (.func 17) #[] #[.pointer (some ⟨c, 0, none⟩)]] w fun e w' => e = .returned (.int .i64 (idxI ks key)) ∧ ∃ n, w' = w.drewN n := by
  obtain ⟨hl, hs⟩ := hfit
  rcases hK with ⟨rfl, rfl⟩ | ⟨K, cap, rfl, hKl, hcell⟩
  · go_enter Tryf.func16, Tryf.ntmps16
    go_wp2
    refine wp_loop_rounds 1 ?_
    rw [rounds_succ]
    go_wp2
    go_ret
    exact ⟨rfl, 0, rfl⟩
  · have HC : Hid (∀ j, j < ks.length → w.cell? ⟨K, j, none⟩ = some (.string (ks.getD j ByteArray.empty))) := hcell
    have HS : Hid (∀ j, (ks.getD j ByteArray.empty).size ≤ 1048576) := hs
    clear hcell hs
    go_enter Tryf.func16, Tryf.ntmps16
    go_wp2
    go_loopw [8] (fun i wr => ∃ k n : Nat, k ≤ ks.length ∧ i = .int .i64 k ∧ wr = w.drewN n ∧ ∀ j, j < k → ks.getD j ByteArray.empty ≠ key) (fun i _ => ks.length - (intOf i).toNat)
    case atStart => exact ⟨0, 0, Nat.zero_le _, rfl, rfl, fun j hj => absurd hj (by omega)⟩
    case round =>
      obtain ⟨k, n, hk, rfl, rfl, hne⟩ := hrel
      have HN : Hid (∀ j, j < k → ks.getD j ByteArray.empty ≠ key) := hne
      clear hne
      by_cases hlt : k < ks.length
      · obtain ⟨s, hs⟩ : ∃ s, s = ks.getD k ByteArray.empty := ⟨_, rfl⟩
        have c0 : w.cell? ⟨K, k, none⟩ = some (.string s) := by rw [hs]; exact HC.out k hlt
        have hsz : s.size ≤ 9223372036854775807 := by rw [hs]; have := HS.out k; omega
        have HSK : Hid (s = ks.getD k ByteArray.empty) := hs
        clear hs
        cases he : decide (s = key)
        · go_wp2_with (go_at_call 17; refine (same_clos _ _ c _ hsz hkey (by simpa using hc)).mono ?_; rintro e w' ⟨rfl, m, rfl⟩)
          go_roundw
          case rel =>
            refine ⟨k + 1, n + m, by omega, by go_num, ?_, fun j hj => ?_⟩
            · rfl
            · by_cases hjk : j < k
              · exact HN.out j hjk
              · have : j = k := by omega
                subst this
                rw [← HSK.out]
                exact of_decide_eq_false he
          case measure => simp [intOf]; omega
        · go_wp2_with (go_at_call 17; refine (same_clos _ _ c _ hsz hkey (by simpa using hc)).mono ?_; rintro e w' ⟨rfl, m, rfl⟩)
          go_ret
          exact ⟨ret_int (idxI_some (idx_some hlt (HSK.out.symm.trans (of_decide_eq_true he)) HN.out)).symm, _, rfl⟩
      · go_wp2
        go_ret
        exact ⟨ret_int (idxI_none (idx_none (fun j hj => HN.out j (by omega)))).symm, _, rfl⟩

theorem first_index (ks : List ByteArray) (key : ByteArray) (kv : Value) (w : World) (hfit : Fit ks) (hK : KeysAt w kv ks) :
    Calls Tryf.prog 7 #[kv, .string key] w fun e w' => e = .returned (.int .i64 (idxI ks key)) ∧ w' = w := by
  obtain ⟨hl, hs⟩ := hfit
  rcases hK with ⟨rfl, rfl⟩ | ⟨K, cap, rfl, hKl, hcell⟩
  · go_enter Tryf.func7, Tryf.ntmps7
    go_wp2
    refine wp_loop_rounds 1 ?_
    rw [rounds_succ]
    go_wp2
    go_ret
    exact ⟨rfl, rfl⟩
  · have HC : Hid (∀ j, j < ks.length → w.cell? ⟨K, j, none⟩ = some (.string (ks.getD j ByteArray.empty))) := hcell
    clear hcell hs
    go_enter Tryf.func7, Tryf.ntmps7
    go_wp2
    go_loop [5] (fun i => ∃ k : Nat, k ≤ ks.length ∧ i = .int .i64 k ∧ ∀ j, j < k → ks.getD j ByteArray.empty ≠ key) (fun i => ks.length - (intOf i).toNat)
    case atStart => exact ⟨0, Nat.zero_le _, rfl, fun j hj => absurd hj (by omega)⟩
    case round =>
      obtain ⟨k, hk, rfl, hne⟩ := hrel
      have HN : Hid (∀ j, j < k → ks.getD j ByteArray.empty ≠ key) := hne
      clear hne
      by_cases hlt : k < ks.length
      · obtain ⟨s, hs⟩ : ∃ s, s = ks.getD k ByteArray.empty := ⟨_, rfl⟩
        have c0 : w.cell? ⟨K, k, none⟩ = some (.string s) := by rw [hs]; exact HC.out k hlt
        have HSK : Hid (s = ks.getD k ByteArray.empty) := hs
        clear hs
        have hq := eq_bytes s key
        cases he : decide (s = key)
        · go_wp2
          go_round
          case rel =>
            refine ⟨k + 1, by omega, by go_num, fun j hj => ?_⟩
            by_cases hjk : j < k
            · exact HN.out j hjk
            · have : j = k := by omega
              subst this
              rw [← HSK.out]
              exact of_decide_eq_false he
          case measure => simp [intOf]; omega
        · go_wp2
          go_ret
          exact ⟨ret_int (idxI_some (idx_some hlt (HSK.out.symm.trans (of_decide_eq_true he)) HN.out)).symm, rfl⟩
      · go_wp2
        go_ret
        exact ⟨ret_int (idxI_none (idx_none (fun j hj => HN.out j (by omega)))).symm, rfl⟩
end Go.Proofs.Qxb6613560aFmt
