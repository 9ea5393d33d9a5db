/-
  A PROOF OF 'Rows.FnTopicSettingTakesUnionAtAnyCutSaid'. The frame was written by the kit's program (proof-skeleton) off the guide's own print for this function; the walk is the prover's.
-/
import Derived.Test.Qxb6613493aRows
import Derived.Test.Qxb6613493aTakes
import Derived.WalkKit
import Derived.ProofKit
import Derived.OpenShut
import Derived.ShutString
namespace Go.Proofs.Qxb6613493a.fnTopicSettingTakesUnionAtAnyCut
open Go.ChangeShapes Go.WideShapes Go.ChangeAt Go.RowKit
open Go.ChangeMaps (open_string shut_string)
set_option linter.unusedVariables false      -- a walk need not use every 'w<i>' (that an integer argument fits its kind)

theorem own : ownKnob Try.prog.godebug = none := by kernel_rfl

/-! ### STEP 1: THE WALK: the Go text returns true. 'Grown w w'': the world has at most new blocks (Derived/RowKit3.lean). Part the cases AHEAD of 'go_enter' where a test parts the walk; take each callee by a contract of your own. -/
/-! ### THE PLAIN LAW: no Go in sight -/
/-- The unsigned offset of n from l, against that of m: inside the range. -/
theorem offs_yes {l m n : Int} (bl : -9223372036854775808 ≤ l ∧ l ≤ 9223372036854775807) (bm : -9223372036854775808 ≤ m ∧ m ≤ 9223372036854775807) (bn : -9223372036854775808 ≤ n ∧ n ≤ 9223372036854775807) (h : l ≤ n ∧ n ≤ m) :
    decide (IntKind.u64.wrap (IntKind.u64.wrap n - IntKind.u64.wrap l) ≤ IntKind.u64.wrap (IntKind.u64.wrap m - IntKind.u64.wrap l)) = true := by
  simp [IntKind.wrap, IntKind.bits, IntKind.signed]
  omega
theorem offs_no {l m n : Int} (bl : -9223372036854775808 ≤ l ∧ l ≤ 9223372036854775807) (bm : -9223372036854775808 ≤ m ∧ m ≤ 9223372036854775807) (bn : -9223372036854775808 ≤ n ∧ n ≤ 9223372036854775807) (hlm : l ≤ m) (h : n < l ∨ m < n) :
    decide (IntKind.u64.wrap (IntKind.u64.wrap n - IntKind.u64.wrap l) ≤ IntKind.u64.wrap (IntKind.u64.wrap m - IntKind.u64.wrap l)) = false := by
  simp [IntKind.wrap, IntKind.bits, IntKind.signed]
  omega

theorem walk (a0 : Int) (a1 : Int) (a2 : Int) (a3 : Bool) (a4 : Int) (w0 : (Lit.int .i64 a0).wf = true) (w1 : (Lit.int .i64 a1).wf = true) (w2 : (Lit.int .i64 a2).wf = true) (w4 : (Lit.int .i64 a4).wf = true) (w : World) :
    Calls Try.prog 3 #[.int .i64 a0, .int .i64 a1, .int .i64 a2, .bool a3, .int .i64 a4] w fun e w' => e = .returned (.bool true) ∧ Grown w w' := by
  have b0 := bounds_i64 w0
  have b1 := bounds_i64 w1
  have b2 := bounds_i64 w2
  have b4 := bounds_i64 w4
  clear w0 w1 w2 w4
  have G0 := Grown.refl w
  by_cases cA : a4 = -1 ∧ a3 = true
  · obtain ⟨rfl, rfl⟩ := cA
    have tW := takesB_yes (l := a0) (m := a2) (nl := true) (n := -1) (Or.inl ⟨rfl, rfl⟩)
    have tL := takesB_yes (l := a0) (m := a1) (nl := true) (n := -1) (Or.inl ⟨rfl, rfl⟩)
    have tR := takesB_yes (l := a1 + 1) (m := a2) (nl := true) (n := -1) (Or.inl ⟨rfl, rfl⟩)
    by_cases c2 : a0 ≤ a2
    all_goals
      go_enter Try.func3, Try.ntmps3
      go_wp2_with (go_at_call 6; refine (takes_from (by assumption) _ _ _ _).mono ?_; rintro e w' ⟨rfl, g⟩)
      all_goals
        go_ret
        exact ⟨rfl, by assumption⟩
  · have nB : a4 = -1 → a3 = false := fun h => by cases a3 <;> simp_all
    have cB : (a3 = false) ∨ (a3 = true ∧ (a4 == -1) = false) := by
      cases a3
      · exact Or.inl rfl
      · right; simp at cA; simp [cA]
    by_cases c2 : a0 ≤ a2
    · by_cases c3 : a0 ≤ a4 ∧ a4 ≤ a2
      · have tW := takesB_yes (l := a0) (m := a2) (nl := a3) (n := a4) (Or.inr c3)
        have ho := offs_yes b0 b2 b4 c3
        by_cases c4 : a4 ≤ a1
        · have tL := takesB_yes (l := a0) (m := a1) (nl := a3) (n := a4) (Or.inr ⟨c3.1, c4⟩)
          clear nB cA
          rcases cB with rfl | ⟨rfl, cB⟩
          all_goals
            go_enter Try.func3, Try.ntmps3
            go_wp2_with (go_at_call 6; refine (takes_from (by assumption) _ _ _ _).mono ?_; rintro e w' ⟨rfl, g⟩)
            all_goals
              go_ret
              exact ⟨rfl, by assumption⟩
        · have tL := takesB_no (l := a0) (m := a1) (nl := a3) (n := a4) nB (by omega)
          have tR := takesB_yes (l := a1 + 1) (m := a2) (nl := a3) (n := a4) (Or.inr ⟨by omega, c3.2⟩)
          clear nB cA
          rcases cB with rfl | ⟨rfl, cB⟩
          all_goals
            go_enter Try.func3, Try.ntmps3
            go_wp2_with (go_at_call 6; refine (takes_from (by assumption) _ _ _ _).mono ?_; rintro e w' ⟨rfl, g⟩)
            all_goals
              go_ret
              exact ⟨rfl, by assumption⟩
      · have c3' : a4 < a0 ∨ a2 < a4 := by omega
        have tW := takesB_no (l := a0) (m := a2) (nl := a3) (n := a4) nB c3'
        have ho := offs_no b0 b2 b4 c2 c3'
        by_cases c4 : a0 ≤ a1 ∧ a1 < a2
        · have tL := takesB_no (l := a0) (m := a1) (nl := a3) (n := a4) nB (by omega)
          have tR := takesB_no (l := a1 + 1) (m := a2) (nl := a3) (n := a4) nB (by omega)
          clear nB cA
          obtain ⟨c5, c6⟩ := c4
          rcases cB with rfl | ⟨rfl, cB⟩
          all_goals
            go_enter Try.func3, Try.ntmps3
            go_wp2_with (go_at_call 6; refine (takes_from (by assumption) _ _ _ _).mono ?_; rintro e w' ⟨rfl, g⟩)
            all_goals
              go_ret
              exact ⟨rfl, by assumption⟩
        · have c4' : a1 < a0 ∨ (a0 ≤ a1 ∧ a2 ≤ a1) := by omega
          clear nB cA c4
          rcases c4' with c5 | ⟨c5, c6⟩
          all_goals
            rcases cB with rfl | ⟨rfl, cB⟩
            all_goals
              go_enter Try.func3, Try.ntmps3
              go_wp2_with (go_at_call 6; refine (takes_from (by assumption) _ _ _ _).mono ?_; rintro e w' ⟨rfl, g⟩)
              all_goals
                go_ret
                exact ⟨rfl, by assumption⟩
    · have tW := takesB_no (l := a0) (m := a2) (nl := a3) (n := a4) nB (by omega)
      have c4' : a1 < a0 ∨ (a0 ≤ a1 ∧ a2 ≤ a1) := by omega
      clear nB cA
      rcases c4' with c5 | ⟨c5, c6⟩
      all_goals
        rcases cB with rfl | ⟨rfl, cB⟩
        all_goals
          go_enter Try.func3, Try.ntmps3
          go_wp2_with (go_at_call 6; refine (takes_from (by assumption) _ _ _ _).mono ?_; rintro e w' ⟨rfl, g⟩)
          all_goals
            go_ret
            exact ⟨rfl, by assumption⟩

/-! ### THE ROW's STEP: WRITTEN OUT: LEAVE IT -/
set_option maxRecDepth 100000 in
theorem lifted (os : Os) (started : os.Started) (H : Type) (enc : TypeId × Value → H) :
    ReturnsInHanded {} Try.checked os 3 .any (Rows.fnTopicSettingTakesUnionAtAnyCutSpec.pre6 enc Try.prog Try.f3 Rows.fnTopicSettingTakesUnionAtAnyCutRow.domain false) (Rows.fnTopicSettingTakesUnionAtAnyCutSpec.post enc Try.prog Try.f3 false true false false) := by
  refine returnsInHanded_of_change (C := Try.checked) own started (by kernel_rfl) Try.func3
    (ChangeSpec.witness6 (enc := enc) (C := Try.checked) false ⟨#[], #[.int .i64 0, .int .i64 0, .int .i64 0, .bool false, .int .i64 0], []⟩ 8 (by kernel_rfl) (by kernel_rfl) (by kernel_rfl) (by kernel_rfl)) ?_
  intro W base args ds gs before hval0 hW hcnd _
  have hval : ∀ (j : Nat) t v, Try.f3.params[j]? = some t → args[j]? = some v → Value.okWide Try.prog W .any base t v := hval0
  have hW' := hW
  obtain ⟨p, q, hA0, hV, rfl, hfz, hnd⟩ := hW
  have hA : DataW.TrodAll enc Try.prog W 0 (fun _ => true) true Try.f3.params.toList args.toList ds p := hA0
  rw [Try.params3] at hA hval
  obtain ⟨v0, vs0, d0, ds0, p0, q0, hargs, rfl, rfl, h0, r0⟩ := trodAll_cons hA
  obtain ⟨v1, vs1, d1, ds1, p1, q1, rfl, rfl, rfl, h1, r1⟩ := trodAll_cons r0
  obtain ⟨v2, vs2, d2, ds2, p2, q2, rfl, rfl, rfl, h2, r2⟩ := trodAll_cons r1
  obtain ⟨v3, vs3, d3, ds3, p3, q3, rfl, rfl, rfl, h3, r3⟩ := trodAll_cons r2
  obtain ⟨v4, vs4, d4, ds4, p4, q4, rfl, rfl, rfl, h4, r4⟩ := trodAll_cons r3
  obtain ⟨rfl, rfl, rfl⟩ := trodAll_nil r4
  obtain rfl : args = #[v0, v1, v2, v3, v4] := by cases args; simp_all
  obtain ⟨rfl, rfl⟩ := trodVars_none hV
  obtain ⟨a0, rfl, rfl, rfl, w0⟩ := open_int Try.underlying2 (hval 0 2 v0 rfl rfl) h0
  obtain ⟨a1, rfl, rfl, rfl, w1⟩ := open_int Try.underlying2 (hval 1 2 v1 rfl rfl) h1
  obtain ⟨a2, rfl, rfl, rfl, w2⟩ := open_int Try.underlying2 (hval 2 2 v2 rfl rfl) h2
  obtain ⟨a3, rfl, rfl, rfl⟩ := open_bool Try.underlying4 (hval 3 4 v3 rfl rfl) h3
  obtain ⟨a4, rfl, rfl, rfl, w4⟩ := open_int Try.underlying2 (hval 4 2 v4 rfl rfl) h4
  clear hA0 hval0
  simp only [List.append_nil] at hW'
  refine (walk a0 a1 a2 a3 a4 w0 w1 w2 w4 W).mono fun e W' ⟨he, hg⟩ => ?_
  subst he
  exact ⟨_, rfl, post_of_same (pa := []) (pv := []) hW' (fun _ _ _ => (trodAll_cons_mk (shut_bool Try.underlying4 _) trodAll_mk0)) (fun sp _ => (trodAll_cons_mk (shut_int Try.underlying2 w0) (trodAll_cons_mk (shut_int Try.underlying2 w1) (trodAll_cons_mk (shut_int Try.underlying2 w2) (trodAll_cons_mk (shut_bool Try.underlying4 _) (trodAll_cons_mk (shut_int Try.underlying2 w4) trodAll_mk0)))))) (fun _ _ => rfl) rfl
    (hg.frame _) hg.2.1 (ok_one (by kernel_rfl) rfl (okWide_bool_mk Try.underlying4 _))⟩

theorem over : Rows.fnTopicSettingTakesUnionAtAnyCutRow.holds Try.pinned (OpenSpec.ofChange Rows.fnTopicSettingTakesUnionAtAnyCutSpec) :=
  OpenClaim.holds_of_wide 3 Try.f3 rfl rfl rfl rfl rfl rfl rfl ⟨rfl, rfl, rfl, rfl, rfl⟩ rfl rfl rfl rfl rfl (by kernel_rfl) Try.func3 (by kernel_rfl)
    (of_decide_eq_true (by kernel_rfl)) (by unfold Func.isWrapper; first | (rw [if_pos (by decide +kernel)]; kernel_rfl) | (rw [if_neg (by decide +kernel)]; exact ⟨rfl, rfl⟩))
    (fun os started H enc _ => lifted os started H enc)

/-- ████ THE STATEMENT ████ -/
theorem proved : Rows.FnTopicSettingTakesUnionAtAnyCutSaid :=
  over
#print axioms proved
end Go.Proofs.Qxb6613493a.fnTopicSettingTakesUnionAtAnyCut
