/-
  FnJudgeConverse: the walk, and the row out of it (the frame: written by the kit's skeleton tool).
-/
import Derived.Test.Qxb6626515aBase
namespace Go.Proofs.Qxb6626515a.fnJudgeConverse
open Go.ChangeShapes Go.WideShapes Go.ChangeAt Go.RowKit
open Go.ChangeMaps (open_string shut_string)
set_option linter.unusedVariables false      -- a walk need not use every 'w<i>' (that an integer argument fits its kind)

theorem own : ownKnob Try.prog.godebug = none := by kernel_rfl

/-! ### STEP 1: THE WALK: the Go text returns true. 'Grown w w'': the world has at most new blocks (Derived/RowKit3.lean). Part the cases AHEAD of 'go_enter' where a test parts the walk; take each callee by a contract of your own. -/
theorem walk (a0 : Bool) (a1 : Int) (a2 : Int) (a3 : Int) (a4 : Int) (w1 : (Lit.int .i64 a1).wf = true) (w2 : (Lit.int .i64 a2).wf = true) (w3 : (Lit.int .i64 a3).wf = true) (w4 : (Lit.int .i64 a4).wf = true) (w : World) :
    Calls Try.prog 3 #[.bool a0, .int .i64 a1, .int .i64 a2, .int .i64 a3, .int .i64 a4] w fun e w' => e = .returned (.bool true) ∧ Grown w w' := by
  cases a0 with
  | false =>
    by_cases h1 : a1 = 0
    · subst h1
      by_cases h2 : a2 = 0
      · subst h2
        go_enter Try.func3, Try.ntmps3
        go_wp2_with (first
          | (go_at_call 5; refine (newOrder _ _ _ _).mono ?_; rintro e w' ⟨rfl, rfl⟩)
          | (go_at_call 6; refine (judge_any _ _ _ _ _ 3 _ (by simp [judge])).mono ?_; rintro e w' ⟨rfl, rfl⟩))
        go_ret
        exact ⟨rfl, by go_grown⟩
      · have hb : (a2 != 0) = true := by simpa using h2
        clear h2
        go_enter Try.func3, Try.ntmps3
        go_wp2
        go_ret
        exact ⟨rfl, by go_grown⟩
    · have hb : (a1 != 0) = true := by simpa using h1
      clear h1
      go_enter Try.func3, Try.ntmps3
      go_wp2
      go_ret
      exact ⟨rfl, by go_grown⟩
  | true =>
    clear w1 w2 w3 w4
    rcases Int.lt_trichotomy a1 a3 with h | h | h
    · have he : (a1 == a3) = false := by simp; omega
      have HJ : Hid ((3 : Int) = judge true a1 a2 a3 a4) := by unfold Hid judge; rw [if_pos (Or.inr h)]
      have HK : Hid ((0 : Int) = judge true a3 a4 a1 a2) := by unfold Hid judge; rw [if_neg (by simp; omega), if_pos h]
      have HL : Hid (true = less a1 a2 a3 a4) := by unfold Hid less; rw [decide_eq_true (by omega)]
      clear h
      go_enter Try.func3, Try.ntmps3
      go_wp2_with fail
      refine (newOrder _ _ _ _).mono ?_
      rintro e w' ⟨rfl, rfl⟩
      go_wp2_with fail
      refine (judge_any _ _ _ _ _ 3 _ HJ.out).mono ?_
      rintro e w' ⟨rfl, rfl⟩
      go_wp2_with fail
      refine (newOrder _ _ _ _).mono ?_
      rintro e w' ⟨rfl, rfl⟩
      go_wp2_with fail
      refine (judge_any _ _ _ _ _ 0 _ HK.out).mono ?_
      rintro e w' ⟨rfl, rfl⟩
      go_wp2_with fail
      refine (less_any _ _ _ _ true _ HL.out).mono ?_
      rintro e w' ⟨rfl, rfl⟩
      go_wp2_with fail
      refine (rise_any _ 3 _ rfl).mono ?_
      rintro e w' ⟨rfl, rfl⟩
      go_wp2_with fail
      refine (fall_any _ 0 _ rfl).mono ?_
      rintro e w' ⟨rfl, rfl⟩
      go_wp2
      go_ret
      exact ⟨rfl, by go_grown⟩
    · subst h
      rcases Int.lt_trichotomy a2 a4 with h | h | h
      · have HJ : Hid ((2 : Int) = judge true a1 a2 a1 a4) := by unfold Hid judge; rw [if_neg (by simp), if_neg (by omega), if_neg (by omega)]
        have HK : Hid ((1 : Int) = judge true a1 a4 a1 a2) := by unfold Hid judge; rw [if_neg (by simp), if_neg (by omega), if_pos (by omega)]
        have HL : Hid (true = less a1 a2 a1 a4) := by unfold Hid less; rw [decide_eq_true (by omega)]
        clear h
        go_enter Try.func3, Try.ntmps3
        go_wp2_with fail
        refine (newOrder _ _ _ _).mono ?_
        rintro e w' ⟨rfl, rfl⟩
        go_wp2_with fail
        refine (judge_any _ _ _ _ _ 2 _ HJ.out).mono ?_
        rintro e w' ⟨rfl, rfl⟩
        go_wp2_with fail
        refine (newOrder _ _ _ _).mono ?_
        rintro e w' ⟨rfl, rfl⟩
        go_wp2_with fail
        refine (judge_any _ _ _ _ _ 1 _ HK.out).mono ?_
        rintro e w' ⟨rfl, rfl⟩
        go_wp2_with fail
        refine (less_any _ _ _ _ true _ HL.out).mono ?_
        rintro e w' ⟨rfl, rfl⟩
        go_wp2_with fail
        refine (rise_any _ 2 _ rfl).mono ?_
        rintro e w' ⟨rfl, rfl⟩
        go_wp2_with fail
        refine (fall_any _ 1 _ rfl).mono ?_
        rintro e w' ⟨rfl, rfl⟩
        go_wp2
        go_ret
        exact ⟨rfl, by go_grown⟩
      · subst h
        have HJ : Hid ((1 : Int) = judge true a1 a2 a1 a2) := by unfold Hid judge; rw [if_neg (by simp), if_neg (by omega), if_pos (by omega)]
        have HK : Hid ((1 : Int) = judge true a1 a2 a1 a2) := HJ
        have HL : Hid (false = less a1 a2 a1 a2) := by unfold Hid less; rw [decide_eq_false (by omega)]
        have HM : Hid (false = less a1 a2 a1 a2) := HL
        go_enter Try.func3, Try.ntmps3
        go_wp2_with fail
        refine (newOrder _ _ _ _).mono ?_
        rintro e w' ⟨rfl, rfl⟩
        go_wp2_with fail
        refine (judge_any _ _ _ _ _ 1 _ HJ.out).mono ?_
        rintro e w' ⟨rfl, rfl⟩
        go_wp2_with fail
        refine (newOrder _ _ _ _).mono ?_
        rintro e w' ⟨rfl, rfl⟩
        go_wp2_with fail
        refine (judge_any _ _ _ _ _ 1 _ HK.out).mono ?_
        rintro e w' ⟨rfl, rfl⟩
        go_wp2_with fail
        refine (less_any _ _ _ _ false _ HL.out).mono ?_
        rintro e w' ⟨rfl, rfl⟩
        go_wp2_with fail
        refine (less_any _ _ _ _ false _ HM.out).mono ?_
        rintro e w' ⟨rfl, rfl⟩
        go_wp2
        go_ret
        exact ⟨rfl, by go_grown⟩
      · have HJ : Hid ((1 : Int) = judge true a1 a2 a1 a4) := by unfold Hid judge; rw [if_neg (by simp), if_neg (by omega), if_pos (by omega)]
        have HK : Hid ((2 : Int) = judge true a1 a4 a1 a2) := by unfold Hid judge; rw [if_neg (by simp), if_neg (by omega), if_neg (by omega)]
        have HL : Hid (false = less a1 a2 a1 a4) := by unfold Hid less; rw [decide_eq_false (by omega)]
        have HM : Hid (true = less a1 a4 a1 a2) := by unfold Hid less; rw [decide_eq_true (by omega)]
        clear h
        go_enter Try.func3, Try.ntmps3
        go_wp2_with fail
        refine (newOrder _ _ _ _).mono ?_
        rintro e w' ⟨rfl, rfl⟩
        go_wp2_with fail
        refine (judge_any _ _ _ _ _ 1 _ HJ.out).mono ?_
        rintro e w' ⟨rfl, rfl⟩
        go_wp2_with fail
        refine (newOrder _ _ _ _).mono ?_
        rintro e w' ⟨rfl, rfl⟩
        go_wp2_with fail
        refine (judge_any _ _ _ _ _ 2 _ HK.out).mono ?_
        rintro e w' ⟨rfl, rfl⟩
        go_wp2_with fail
        refine (less_any _ _ _ _ false _ HL.out).mono ?_
        rintro e w' ⟨rfl, rfl⟩
        go_wp2_with fail
        refine (less_any _ _ _ _ true _ HM.out).mono ?_
        rintro e w' ⟨rfl, rfl⟩
        go_wp2_with fail
        refine (fall_any _ 1 _ rfl).mono ?_
        rintro e w' ⟨rfl, rfl⟩
        go_wp2_with fail
        refine (rise_any _ 2 _ rfl).mono ?_
        rintro e w' ⟨rfl, rfl⟩
        go_wp2
        go_ret
        exact ⟨rfl, by go_grown⟩
    · have he : (a1 == a3) = false := by simp; omega
      have HJ : Hid ((0 : Int) = judge true a1 a2 a3 a4) := by unfold Hid judge; rw [if_neg (by simp; omega), if_pos h]
      have HK : Hid ((3 : Int) = judge true a3 a4 a1 a2) := by unfold Hid judge; rw [if_pos (Or.inr h)]
      have HL : Hid (false = less a1 a2 a3 a4) := by unfold Hid less; rw [decide_eq_false (by omega)]
      have HM : Hid (true = less a3 a4 a1 a2) := by unfold Hid less; rw [decide_eq_true (by omega)]
      clear h
      go_enter Try.func3, Try.ntmps3
      go_wp2_with fail
      refine (newOrder _ _ _ _).mono ?_
      rintro e w' ⟨rfl, rfl⟩
      go_wp2_with fail
      refine (judge_any _ _ _ _ _ 0 _ HJ.out).mono ?_
      rintro e w' ⟨rfl, rfl⟩
      go_wp2_with fail
      refine (newOrder _ _ _ _).mono ?_
      rintro e w' ⟨rfl, rfl⟩
      go_wp2_with fail
      refine (judge_any _ _ _ _ _ 3 _ HK.out).mono ?_
      rintro e w' ⟨rfl, rfl⟩
      go_wp2_with fail
      refine (less_any _ _ _ _ false _ HL.out).mono ?_
      rintro e w' ⟨rfl, rfl⟩
      go_wp2_with fail
      refine (less_any _ _ _ _ true _ HM.out).mono ?_
      rintro e w' ⟨rfl, rfl⟩
      go_wp2_with fail
      refine (fall_any _ 0 _ rfl).mono ?_
      rintro e w' ⟨rfl, rfl⟩
      go_wp2_with fail
      refine (rise_any _ 3 _ rfl).mono ?_
      rintro e w' ⟨rfl, rfl⟩
      go_wp2
      go_ret
      exact ⟨rfl, by go_grown⟩

/-! ### THE ROW's STEP: WRITTEN OUT: LEAVE IT -/
set_option maxRecDepth 100000 in
theorem lifted (os : Os) (started : os.Started) (H : Type) (enc : TypeId × Value → H) :
    ReturnsInHanded {} Try.checked os 3 .any (Rows.fnJudgeConverseSpec.pre6 enc Try.prog Try.f3 Rows.fnJudgeConverseRow.domain false) (Rows.fnJudgeConverseSpec.post enc Try.prog Try.f3 false true false false) := by
  refine returnsInHanded_of_change (C := Try.checked) own started (by kernel_rfl) Try.func3
    (ChangeSpec.witness6 (enc := enc) (C := Try.checked) false ⟨#[], #[.bool false, .int .i64 0, .int .i64 0, .int .i64 0, .int .i64 0], []⟩ 8 (by kernel_rfl) (by kernel_rfl) (by kernel_rfl) (by kernel_rfl)) ?_
  intro W base args ds gs before hval0 hW hcnd _
  have hval : ∀ (j : Nat) t v, Try.f3.params[j]? = some t → args[j]? = some v → Value.okWide Try.prog W .any base t v := hval0
  have hW' := hW
  obtain ⟨p, q, hA0, hV, rfl, hfz, hnd⟩ := hW
  have hA : DataW.TrodAll enc Try.prog W 0 (fun _ => true) true Try.f3.params.toList args.toList ds p := hA0
  rw [Try.params3] at hA hval
  obtain ⟨v0, vs0, d0, ds0, p0, q0, hargs, rfl, rfl, h0, r0⟩ := trodAll_cons hA
  obtain ⟨v1, vs1, d1, ds1, p1, q1, rfl, rfl, rfl, h1, r1⟩ := trodAll_cons r0
  obtain ⟨v2, vs2, d2, ds2, p2, q2, rfl, rfl, rfl, h2, r2⟩ := trodAll_cons r1
  obtain ⟨v3, vs3, d3, ds3, p3, q3, rfl, rfl, rfl, h3, r3⟩ := trodAll_cons r2
  obtain ⟨v4, vs4, d4, ds4, p4, q4, rfl, rfl, rfl, h4, r4⟩ := trodAll_cons r3
  obtain ⟨rfl, rfl, rfl⟩ := trodAll_nil r4
  obtain rfl : args = #[v0, v1, v2, v3, v4] := by cases args; simp_all
  obtain ⟨rfl, rfl⟩ := trodVars_none hV
  obtain ⟨a0, rfl, rfl, rfl⟩ := open_bool Try.underlying4 (hval 0 4 v0 rfl rfl) h0
  obtain ⟨a1, rfl, rfl, rfl, w1⟩ := open_int Try.underlying2 (hval 1 2 v1 rfl rfl) h1
  obtain ⟨a2, rfl, rfl, rfl, w2⟩ := open_int Try.underlying2 (hval 2 2 v2 rfl rfl) h2
  obtain ⟨a3, rfl, rfl, rfl, w3⟩ := open_int Try.underlying2 (hval 3 2 v3 rfl rfl) h3
  obtain ⟨a4, rfl, rfl, rfl, w4⟩ := open_int Try.underlying2 (hval 4 2 v4 rfl rfl) h4
  clear hA0 hval0
  simp only [List.append_nil] at hW'
  refine (walk a0 a1 a2 a3 a4 w1 w2 w3 w4 W).mono fun e W' ⟨he, hg⟩ => ?_
  subst he
  exact ⟨_, rfl, post_of_same (pa := []) (pv := []) hW' (fun _ _ _ => (trodAll_cons_mk (shut_bool Try.underlying4 _) trodAll_mk0)) (fun sp _ => (trodAll_cons_mk (shut_bool Try.underlying4 _) (trodAll_cons_mk (shut_int Try.underlying2 w1) (trodAll_cons_mk (shut_int Try.underlying2 w2) (trodAll_cons_mk (shut_int Try.underlying2 w3) (trodAll_cons_mk (shut_int Try.underlying2 w4) trodAll_mk0)))))) (fun _ _ => rfl) rfl
    (hg.frame _) hg.2.1 (ok_one (by kernel_rfl) rfl (okWide_bool_mk Try.underlying4 _))⟩

theorem over : Rows.fnJudgeConverseRow.holds Try.pinned (OpenSpec.ofChange Rows.fnJudgeConverseSpec) :=
  OpenClaim.holds_of_wide 3 Try.f3 rfl rfl rfl rfl rfl rfl rfl ⟨rfl, rfl, rfl, rfl, rfl⟩ rfl rfl rfl rfl rfl (by kernel_rfl) Try.func3 (by kernel_rfl)
    (of_decide_eq_true (by kernel_rfl)) (by unfold Func.isWrapper; first | (rw [if_pos (by decide +kernel)]; kernel_rfl) | (rw [if_neg (by decide +kernel)]; exact ⟨rfl, rfl⟩))
    (fun os started H enc _ => lifted os started H enc)

/-- ████ THE STATEMENT ████ -/
theorem proved : Rows.FnJudgeConverseSaid :=
  over
end Go.Proofs.Qxb6626515a.fnJudgeConverse
