/-
  A PROOF OF 'Rows.FnTopicSettingTakesItsEndsNothingBeyondAndShiftsSaid'. The frame was written by the kit's program (proof-skeleton) off the guide's own print for this function; the walk is the prover's.
-/
import Derived.Test.Qxb6613493aRows
import Derived.Test.Qxb6613493aTakes
import Derived.Below
import Derived.WalkKit
import Derived.ProofKit
import Derived.OpenShut
import Derived.ShutString
namespace Go.Proofs.Qxb6613493a.fnTopicSettingTakesItsEndsNothingBeyondAndShifts
open Go.ChangeShapes Go.WideShapes Go.ChangeAt Go.RowKit
open Go.ChangeMaps (open_string shut_string)
set_option linter.unusedVariables false      -- a walk need not use every 'w<i>' (that an integer argument fits its kind)

theorem own : ownKnob Try.prog.godebug = none := by kernel_rfl

/-- What 'zzMetaB1AddOK' answers: the sum fits an int64. -/
def addB (a d : Int) : Bool := decide (-9223372036854775808 ≤ a + d ∧ a + d ≤ 9223372036854775807)

theorem addOK_any (a d : Int) (ha : -9223372036854775808 ≤ a ∧ a ≤ 9223372036854775807) (hd : -9223372036854775808 ≤ d ∧ d ≤ 9223372036854775807) (w : World) :
    Calls Try.prog 7 #[.int .i64 a, .int .i64 d] w fun e w' => e = .returned (.bool (addB a d)) ∧ w' = w := by
  obtain ⟨h1, h2⟩ := ha
  obtain ⟨h3, h4⟩ := hd
  by_cases c1 : 0 < d
  · have t : Hid (addB a d = decide (a ≤ 9223372036854775807 - d)) := by
      show addB a d = _
      unfold addB
      rw [decide_eq_decide]
      omega
    go_enter Try.func7, Try.ntmps7
    go_wp2
    all_goals
      go_ret
      exact ⟨by rw [t.out]; rfl, rfl⟩
  · by_cases c2 : d < 0
    · have t : Hid (addB a d = decide (-9223372036854775808 - d ≤ a)) := by
        show addB a d = _
        unfold addB
        rw [decide_eq_decide]
        omega
      go_enter Try.func7, Try.ntmps7
      go_wp2
      all_goals
        go_ret
        exact ⟨by rw [t.out]; rfl, rfl⟩
    · have t : Hid (addB a d = true) := by
        show addB a d = _
        unfold addB
        rw [decide_eq_true_eq]
        omega
      go_enter Try.func7, Try.ntmps7
      go_wp2
      all_goals
        go_ret
        exact ⟨by rw [t.out]; rfl, rfl⟩

theorem addB_range {a d : Int} (h : addB a d = true) : -9223372036854775808 ≤ a + d ∧ a + d ≤ 9223372036854775807 := by
  unfold addB at h; simpa using h

/-! ### THE PLAIN LAWS -/
theorem open_of_yes {l m n : Int} (h : takesB l m false n = true) : takesB l m true n = true := by
  unfold takesB at *; simp at *; omega
theorem open_of_no {l m n : Int} (h : takesB l m false n = false) : takesB l m true n = (n == -1) := by
  unfold takesB at *
  simp only [Bool.and_false, Bool.false_or] at h
  rw [h]
  simp only [Bool.and_true, Bool.or_false]
  rfl
theorem shift_same (l m n d : Int) : takesB (l + d) (m + d) false (n + d) = takesB l m false n := by
  unfold takesB
  simp only [Bool.and_false, Bool.false_or]
  congr 1
  · rw [decide_eq_decide]; omega
  · rw [decide_eq_decide]; omega
theorem below_true {l m : Int} (h : l ≤ m) : takesB l m true (l - 1) = (l - 1 == -1) := by
  refine open_of_no (takesB_no (fun _ => rfl) (by omega))
theorem above_true {l m : Int} (h : l ≤ m) : takesB l m true (m + 1) = (m + 1 == -1) := by
  refine open_of_no (takesB_no (fun _ => rfl) (by omega))

set_option maxHeartbeats 4000000 in
theorem walk (a0 : Int) (a1 : Int) (a2 : Int) (a3 : Bool) (a4 : Int) (w0 : (Lit.int .i64 a0).wf = true) (w1 : (Lit.int .i64 a1).wf = true) (w2 : (Lit.int .i64 a2).wf = true) (w4 : (Lit.int .i64 a4).wf = true) (w : World) :
    Calls Try.prog 4 #[.int .i64 a0, .int .i64 a1, .int .i64 a2, .bool a3, .int .i64 a4] w fun e w' => e = .returned (.bool true) ∧ Grown w w' := by
  have b0 := bounds_i64 w0
  have b1 := bounds_i64 w1
  have b2 := bounds_i64 w2
  have b4 := bounds_i64 w4
  clear w0 w1 w2 w4
  have G0 := Grown.refl w
  by_cases c1 : a0 ≤ a1
  · have tl : takesB a0 a1 a3 a0 = true := takesB_yes (Or.inr ⟨Int.le_refl _, c1⟩)
    have tm : takesB a0 a1 a3 a1 = true := takesB_yes (Or.inr ⟨c1, Int.le_refl _⟩)
    cases a3
    · have tb : takesB a0 a1 false (a0 - 1) = false := takesB_no (fun _ => rfl) (by omega)
      have ta : takesB a0 a1 false (a1 + 1) = false := takesB_no (fun _ => rfl) (by omega)
      cases hP : takesB a0 a1 false a4
      · have hO := open_of_no hP
        cases k0 : addB a0 a2
        · go_enter Try.func4, Try.ntmps4
          go_wp2_with (first | (go_at_call 6; refine (takes_from (by assumption) _ _ _ _).mono ?_; rintro e w' ⟨rfl, g⟩) | (go_at_call 7; refine (addOK_any _ _ (by assumption) (by assumption) _).mono ?_; rintro e w' ⟨rfl, rfl⟩))
          all_goals
            go_ret
            exact ⟨rfl, by assumption⟩
        · cases k1 : addB a1 a2
          · go_enter Try.func4, Try.ntmps4
            go_wp2_with (first | (go_at_call 6; refine (takes_from (by assumption) _ _ _ _).mono ?_; rintro e w' ⟨rfl, g⟩) | (go_at_call 7; refine (addOK_any _ _ (by assumption) (by assumption) _).mono ?_; rintro e w' ⟨rfl, rfl⟩))
            all_goals
              go_ret
              exact ⟨rfl, by assumption⟩
          · cases k4 : addB a4 a2
            · go_enter Try.func4, Try.ntmps4
              go_wp2_with (first | (go_at_call 6; refine (takes_from (by assumption) _ _ _ _).mono ?_; rintro e w' ⟨rfl, g⟩) | (go_at_call 7; refine (addOK_any _ _ (by assumption) (by assumption) _).mono ?_; rintro e w' ⟨rfl, rfl⟩))
              all_goals
                go_ret
                exact ⟨rfl, by assumption⟩
            · obtain ⟨r0, r0'⟩ := addB_range k0
              obtain ⟨r1, r1'⟩ := addB_range k1
              obtain ⟨r4, r4'⟩ := addB_range k4
              have hS : takesB (a0 + a2) (a1 + a2) false (a4 + a2) = false := by rw [shift_same]; exact hP
              go_enter Try.func4, Try.ntmps4
              go_wp2_with (first | (go_at_call 6; refine (takes_from (by assumption) _ _ _ _).mono ?_; rintro e w' ⟨rfl, g⟩) | (go_at_call 7; refine (addOK_any _ _ (by assumption) (by assumption) _).mono ?_; rintro e w' ⟨rfl, rfl⟩))
              all_goals
                go_ret
                exact ⟨rfl, by assumption⟩
      · have hO := open_of_yes hP
        cases k0 : addB a0 a2
        · go_enter Try.func4, Try.ntmps4
          go_wp2_with (first | (go_at_call 6; refine (takes_from (by assumption) _ _ _ _).mono ?_; rintro e w' ⟨rfl, g⟩) | (go_at_call 7; refine (addOK_any _ _ (by assumption) (by assumption) _).mono ?_; rintro e w' ⟨rfl, rfl⟩))
          all_goals
            go_ret
            exact ⟨rfl, by assumption⟩
        · cases k1 : addB a1 a2
          · go_enter Try.func4, Try.ntmps4
            go_wp2_with (first | (go_at_call 6; refine (takes_from (by assumption) _ _ _ _).mono ?_; rintro e w' ⟨rfl, g⟩) | (go_at_call 7; refine (addOK_any _ _ (by assumption) (by assumption) _).mono ?_; rintro e w' ⟨rfl, rfl⟩))
            all_goals
              go_ret
              exact ⟨rfl, by assumption⟩
          · cases k4 : addB a4 a2
            · go_enter Try.func4, Try.ntmps4
              go_wp2_with (first | (go_at_call 6; refine (takes_from (by assumption) _ _ _ _).mono ?_; rintro e w' ⟨rfl, g⟩) | (go_at_call 7; refine (addOK_any _ _ (by assumption) (by assumption) _).mono ?_; rintro e w' ⟨rfl, rfl⟩))
              all_goals
                go_ret
                exact ⟨rfl, by assumption⟩
            · obtain ⟨r0, r0'⟩ := addB_range k0
              obtain ⟨r1, r1'⟩ := addB_range k1
              obtain ⟨r4, r4'⟩ := addB_range k4
              have hS : takesB (a0 + a2) (a1 + a2) false (a4 + a2) = true := by rw [shift_same]; exact hP
              go_enter Try.func4, Try.ntmps4
              go_wp2_with (first | (go_at_call 6; refine (takes_from (by assumption) _ _ _ _).mono ?_; rintro e w' ⟨rfl, g⟩) | (go_at_call 7; refine (addOK_any _ _ (by assumption) (by assumption) _).mono ?_; rintro e w' ⟨rfl, rfl⟩))
              all_goals
                go_ret
                exact ⟨rfl, by assumption⟩
    · have tb : takesB a0 a1 true (a0 - 1) = (a0 - 1 == -1) := below_true c1
      have ta : takesB a0 a1 true (a1 + 1) = (a1 + 1 == -1) := above_true c1
      cases hP : takesB a0 a1 false a4
      · have hO := open_of_no hP
        cases k0 : addB a0 a2
        · go_enter Try.func4, Try.ntmps4
          go_wp2_with (first | (go_at_call 6; refine (takes_from (by assumption) _ _ _ _).mono ?_; rintro e w' ⟨rfl, g⟩) | (go_at_call 7; refine (addOK_any _ _ (by assumption) (by assumption) _).mono ?_; rintro e w' ⟨rfl, rfl⟩))
          all_goals
            go_ret
            exact ⟨rfl, by assumption⟩
        · cases k1 : addB a1 a2
          · go_enter Try.func4, Try.ntmps4
            go_wp2_with (first | (go_at_call 6; refine (takes_from (by assumption) _ _ _ _).mono ?_; rintro e w' ⟨rfl, g⟩) | (go_at_call 7; refine (addOK_any _ _ (by assumption) (by assumption) _).mono ?_; rintro e w' ⟨rfl, rfl⟩))
            all_goals
              go_ret
              exact ⟨rfl, by assumption⟩
          · cases k4 : addB a4 a2
            · go_enter Try.func4, Try.ntmps4
              go_wp2_with (first | (go_at_call 6; refine (takes_from (by assumption) _ _ _ _).mono ?_; rintro e w' ⟨rfl, g⟩) | (go_at_call 7; refine (addOK_any _ _ (by assumption) (by assumption) _).mono ?_; rintro e w' ⟨rfl, rfl⟩))
              all_goals
                go_ret
                exact ⟨rfl, by assumption⟩
            · obtain ⟨r0, r0'⟩ := addB_range k0
              obtain ⟨r1, r1'⟩ := addB_range k1
              obtain ⟨r4, r4'⟩ := addB_range k4
              have hS : takesB (a0 + a2) (a1 + a2) false (a4 + a2) = false := by rw [shift_same]; exact hP
              go_enter Try.func4, Try.ntmps4
              go_wp2_with (first | (go_at_call 6; refine (takes_from (by assumption) _ _ _ _).mono ?_; rintro e w' ⟨rfl, g⟩) | (go_at_call 7; refine (addOK_any _ _ (by assumption) (by assumption) _).mono ?_; rintro e w' ⟨rfl, rfl⟩))
              all_goals
                go_ret
                exact ⟨rfl, by assumption⟩
      · have hO := open_of_yes hP
        cases k0 : addB a0 a2
        · go_enter Try.func4, Try.ntmps4
          go_wp2_with (first | (go_at_call 6; refine (takes_from (by assumption) _ _ _ _).mono ?_; rintro e w' ⟨rfl, g⟩) | (go_at_call 7; refine (addOK_any _ _ (by assumption) (by assumption) _).mono ?_; rintro e w' ⟨rfl, rfl⟩))
          all_goals
            go_ret
            exact ⟨rfl, by assumption⟩
        · cases k1 : addB a1 a2
          · go_enter Try.func4, Try.ntmps4
            go_wp2_with (first | (go_at_call 6; refine (takes_from (by assumption) _ _ _ _).mono ?_; rintro e w' ⟨rfl, g⟩) | (go_at_call 7; refine (addOK_any _ _ (by assumption) (by assumption) _).mono ?_; rintro e w' ⟨rfl, rfl⟩))
            all_goals
              go_ret
              exact ⟨rfl, by assumption⟩
          · cases k4 : addB a4 a2
            · go_enter Try.func4, Try.ntmps4
              go_wp2_with (first | (go_at_call 6; refine (takes_from (by assumption) _ _ _ _).mono ?_; rintro e w' ⟨rfl, g⟩) | (go_at_call 7; refine (addOK_any _ _ (by assumption) (by assumption) _).mono ?_; rintro e w' ⟨rfl, rfl⟩))
              all_goals
                go_ret
                exact ⟨rfl, by assumption⟩
            · obtain ⟨r0, r0'⟩ := addB_range k0
              obtain ⟨r1, r1'⟩ := addB_range k1
              obtain ⟨r4, r4'⟩ := addB_range k4
              have hS : takesB (a0 + a2) (a1 + a2) false (a4 + a2) = true := by rw [shift_same]; exact hP
              go_enter Try.func4, Try.ntmps4
              go_wp2_with (first | (go_at_call 6; refine (takes_from (by assumption) _ _ _ _).mono ?_; rintro e w' ⟨rfl, g⟩) | (go_at_call 7; refine (addOK_any _ _ (by assumption) (by assumption) _).mono ?_; rintro e w' ⟨rfl, rfl⟩))
              all_goals
                go_ret
                exact ⟨rfl, by assumption⟩
  · have hP : takesB a0 a1 false a4 = false := takesB_no (fun _ => rfl) (by omega)
    have hO := open_of_no hP
    cases k0 : addB a0 a2
    · go_enter Try.func4, Try.ntmps4
      go_wp2_with (first | (go_at_call 6; refine (takes_from (by assumption) _ _ _ _).mono ?_; rintro e w' ⟨rfl, g⟩) | (go_at_call 7; refine (addOK_any _ _ (by assumption) (by assumption) _).mono ?_; rintro e w' ⟨rfl, rfl⟩))
      all_goals
        go_ret
        exact ⟨rfl, by assumption⟩
    · cases k1 : addB a1 a2
      · go_enter Try.func4, Try.ntmps4
        go_wp2_with (first | (go_at_call 6; refine (takes_from (by assumption) _ _ _ _).mono ?_; rintro e w' ⟨rfl, g⟩) | (go_at_call 7; refine (addOK_any _ _ (by assumption) (by assumption) _).mono ?_; rintro e w' ⟨rfl, rfl⟩))
        all_goals
          go_ret
          exact ⟨rfl, by assumption⟩
      · cases k4 : addB a4 a2
        · go_enter Try.func4, Try.ntmps4
          go_wp2_with (first | (go_at_call 6; refine (takes_from (by assumption) _ _ _ _).mono ?_; rintro e w' ⟨rfl, g⟩) | (go_at_call 7; refine (addOK_any _ _ (by assumption) (by assumption) _).mono ?_; rintro e w' ⟨rfl, rfl⟩))
          all_goals
            go_ret
            exact ⟨rfl, by assumption⟩
        · obtain ⟨r0, r0'⟩ := addB_range k0
          obtain ⟨r1, r1'⟩ := addB_range k1
          obtain ⟨r4, r4'⟩ := addB_range k4
          have hS : takesB (a0 + a2) (a1 + a2) false (a4 + a2) = false := by rw [shift_same]; exact hP
          go_enter Try.func4, Try.ntmps4
          go_wp2_with (first | (go_at_call 6; refine (takes_from (by assumption) _ _ _ _).mono ?_; rintro e w' ⟨rfl, g⟩) | (go_at_call 7; refine (addOK_any _ _ (by assumption) (by assumption) _).mono ?_; rintro e w' ⟨rfl, rfl⟩))
          all_goals
            go_ret
            exact ⟨rfl, by assumption⟩

/-! ### THE ROW's STEP: WRITTEN OUT: LEAVE IT -/
set_option maxRecDepth 100000 in
theorem lifted (os : Os) (started : os.Started) (H : Type) (enc : TypeId × Value → H) :
    ReturnsInHanded {} Try.checked os 4 .any (Rows.fnTopicSettingTakesItsEndsNothingBeyondAndShiftsSpec.pre6 enc Try.prog Try.f4 Rows.fnTopicSettingTakesItsEndsNothingBeyondAndShiftsRow.domain false) (Rows.fnTopicSettingTakesItsEndsNothingBeyondAndShiftsSpec.post enc Try.prog Try.f4 false true false false) := by
  refine returnsInHanded_of_change (C := Try.checked) own started (by kernel_rfl) Try.func4
    (ChangeSpec.witness6 (enc := enc) (C := Try.checked) false ⟨#[], #[.int .i64 0, .int .i64 0, .int .i64 0, .bool false, .int .i64 0], []⟩ 8 (by kernel_rfl) (by kernel_rfl) (by kernel_rfl) (by kernel_rfl)) ?_
  intro W base args ds gs before hval0 hW hcnd _
  have hval : ∀ (j : Nat) t v, Try.f4.params[j]? = some t → args[j]? = some v → Value.okWide Try.prog W .any base t v := hval0
  have hW' := hW
  obtain ⟨p, q, hA0, hV, rfl, hfz, hnd⟩ := hW
  have hA : DataW.TrodAll enc Try.prog W 0 (fun _ => true) true Try.f4.params.toList args.toList ds p := hA0
  rw [Try.params4] at hA hval
  obtain ⟨v0, vs0, d0, ds0, p0, q0, hargs, rfl, rfl, h0, r0⟩ := trodAll_cons hA
  obtain ⟨v1, vs1, d1, ds1, p1, q1, rfl, rfl, rfl, h1, r1⟩ := trodAll_cons r0
  obtain ⟨v2, vs2, d2, ds2, p2, q2, rfl, rfl, rfl, h2, r2⟩ := trodAll_cons r1
  obtain ⟨v3, vs3, d3, ds3, p3, q3, rfl, rfl, rfl, h3, r3⟩ := trodAll_cons r2
  obtain ⟨v4, vs4, d4, ds4, p4, q4, rfl, rfl, rfl, h4, r4⟩ := trodAll_cons r3
  obtain ⟨rfl, rfl, rfl⟩ := trodAll_nil r4
  obtain rfl : args = #[v0, v1, v2, v3, v4] := by cases args; simp_all
  obtain ⟨rfl, rfl⟩ := trodVars_none hV
  obtain ⟨a0, rfl, rfl, rfl, w0⟩ := open_int Try.underlying2 (hval 0 2 v0 rfl rfl) h0
  obtain ⟨a1, rfl, rfl, rfl, w1⟩ := open_int Try.underlying2 (hval 1 2 v1 rfl rfl) h1
  obtain ⟨a2, rfl, rfl, rfl, w2⟩ := open_int Try.underlying2 (hval 2 2 v2 rfl rfl) h2
  obtain ⟨a3, rfl, rfl, rfl⟩ := open_bool Try.underlying4 (hval 3 4 v3 rfl rfl) h3
  obtain ⟨a4, rfl, rfl, rfl, w4⟩ := open_int Try.underlying2 (hval 4 2 v4 rfl rfl) h4
  clear hA0 hval0
  simp only [List.append_nil] at hW'
  refine (walk a0 a1 a2 a3 a4 w0 w1 w2 w4 W).mono fun e W' ⟨he, hg⟩ => ?_
  subst he
  exact ⟨_, rfl, post_of_same (pa := []) (pv := []) hW' (fun _ _ _ => (trodAll_cons_mk (shut_bool Try.underlying4 _) trodAll_mk0)) (fun sp _ => (trodAll_cons_mk (shut_int Try.underlying2 w0) (trodAll_cons_mk (shut_int Try.underlying2 w1) (trodAll_cons_mk (shut_int Try.underlying2 w2) (trodAll_cons_mk (shut_bool Try.underlying4 _) (trodAll_cons_mk (shut_int Try.underlying2 w4) trodAll_mk0)))))) (fun _ _ => rfl) rfl
    (hg.frame _) hg.2.1 (ok_one (by kernel_rfl) rfl (okWide_bool_mk Try.underlying4 _))⟩

theorem over : Rows.fnTopicSettingTakesItsEndsNothingBeyondAndShiftsRow.holds Try.pinned (OpenSpec.ofChange Rows.fnTopicSettingTakesItsEndsNothingBeyondAndShiftsSpec) :=
  OpenClaim.holds_of_wide 4 Try.f4 rfl rfl rfl rfl rfl rfl rfl ⟨rfl, rfl, rfl, rfl, rfl⟩ rfl rfl rfl rfl rfl (by kernel_rfl) Try.func4 (by kernel_rfl)
    (of_decide_eq_true (by kernel_rfl)) (by unfold Func.isWrapper; first | (rw [if_pos (by decide +kernel)]; kernel_rfl) | (rw [if_neg (by decide +kernel)]; exact ⟨rfl, rfl⟩))
    (fun os started H enc _ => lifted os started H enc)

/-- ████ THE STATEMENT ████ -/
theorem proved : Rows.FnTopicSettingTakesItsEndsNothingBeyondAndShiftsSaid :=
  over
#print axioms proved
end Go.Proofs.Qxb6613493a.fnTopicSettingTakesItsEndsNothingBeyondAndShifts
