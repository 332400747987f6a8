/-
  FnSubjectTypeStringInjective: the walk, and the row out of it (the frame: written by the kit's skeleton tool).
-/
import Derived.Test.Qxb6626486aBase
namespace Go.Proofs.Qxb6626486a.fnSubjectTypeStringInjective
open Go.ChangeShapes Go.WideShapes Go.ChangeAt Go.RowKit
open Go.ChangeMaps (open_string shut_string)
set_option linter.unusedVariables false      -- a walk need not use every 'w<i>' (that an integer argument fits its kind)

theorem own : ownKnob Try.prog.godebug = none := by kernel_rfl

/-! ### STEP 1: THE WALK: the Go text returns true. 'Grown w w'': the world has at most new blocks (Derived/RowKit3.lean). Part the cases AHEAD of 'go_enter' where a test parts the walk; take each callee by a contract of your own. -/
theorem walk (a0 : ByteArray) (a1 : ByteArray) (a2 : ByteArray) (a3 : ByteArray) (w0 : a0.size ≤ maxLen) (w1 : a1.size ≤ maxLen) (w2 : a2.size ≤ maxLen) (w3 : a3.size ≤ maxLen) (w : World) :
    Calls Try.prog 4 #[.string a0, .string a1, .string a2, .string a3] w fun e w' => e = .returned (.bool true) ∧ Grown w w' := by
  go_enter Try.func4, Try.ntmps4
  go_wp2_with fail
  refine (size4 a0 a1 a2 a3 w w0 w1 w2 w3).mono ?_
  rintro e w' ⟨b, rfl, hb, hw⟩
  replace hw := hw.symm
  subst hw
  cases b with
  | false =>
    go_wp2
    go_ret
    exact ⟨rfl, Grown.refl _⟩
  | true =>
  have hsz := hb rfl
  clear hb w0 w1 w2 w3
  go_wp2_with fail
  refine (indexHash a0 w (by omega)).mono ?_
  rintro e w' ⟨n, rfl, hn, hw⟩
  replace hw := hw.symm
  subst hw
  by_cases h0 : 0 ≤ n
  · have hd : decide (0 ≤ n) = true := decide_eq_true h0
    go_wp2
    go_ret
    exact ⟨rfl, Grown.refl _⟩
  have hd : decide (0 ≤ n) = false := decide_eq_false h0
  have HT : Hid (∀ j (h : j < a0.size), a0[j] ≠ 35) := by
    rcases hn with ⟨_, h⟩ | ⟨k, _, rfl, _⟩
    · exact h
    · omega
  clear hn
  go_wp2_with fail
  refine (indexHash a2 w (by omega)).mono ?_
  rintro e w' ⟨m, rfl, hm, hw⟩
  replace hw := hw.symm
  subst hw
  by_cases h1 : 0 ≤ m
  · have hd' : decide (0 ≤ m) = true := decide_eq_true h1
    go_wp2
    go_ret
    exact ⟨rfl, Grown.refl _⟩
  have hd' : decide (0 ≤ m) = false := decide_eq_false h1
  have HT' : Hid (∀ j (h : j < a2.size), a2[j] ≠ 35) := by
    rcases hm with ⟨_, h⟩ | ⟨k, _, rfl, _⟩
    · exact h
    · omega
  clear hm
  by_cases r1 : a1 = ByteArray.empty
  · subst r1
    go_wp2_with fail
    refine (string_bare a0 _).mono ?_
    rintro e w' ⟨rfl, rfl⟩
    by_cases r2 : a3 = ByteArray.empty
    · subst r2
      go_wp2_with fail
      refine (string_bare a2 _).mono ?_
      rintro e w' ⟨rfl, rfl⟩
      by_cases e1 : a0 = a2
      · subst e1
        go_wp2
        go_ret
        exact ⟨rfl, by go_grown⟩
      · have b1 := bytes_ne e1
        clear e1
        go_wp2
        go_ret
        exact ⟨rfl, by go_grown⟩
    · have ne := nonempty_of r2
      have b2 := bytes_ne (fun e => r2 e.symm)
      clear r2
      go_wp2_with fail
      refine (string_set a2 a3 _ ne (by omega) (by omega)).mono ?_
      rintro e w' ⟨rfl, rfl⟩
      have b3 := bytes_ne (bare_ne (t' := a2) (r' := a3) HT.out)
      generalize a2 ++ ⟨#[35]⟩ ++ a3 = s at *
      by_cases e1 : a0 = a2
      · subst e1
        go_wp2
        go_ret
        exact ⟨rfl, by go_grown⟩
      · have b1 := bytes_ne e1
        clear e1
        go_wp2
        go_ret
        exact ⟨rfl, by go_grown⟩
  · have ne := nonempty_of r1
    go_wp2_with fail
    refine (string_set a0 a1 _ ne (by omega) (by omega)).mono ?_
    rintro e w' ⟨rfl, rfl⟩
    by_cases r2 : a3 = ByteArray.empty
    · subst r2
      have b2 := bytes_ne r1
      clear r1
      go_wp2_with fail
      refine (string_bare a2 _).mono ?_
      rintro e w' ⟨rfl, rfl⟩
      have b3 := bytes_ne (fun e => bare_ne (t' := a0) (r' := a1) HT'.out e.symm)
      generalize a0 ++ ⟨#[35]⟩ ++ a1 = s at *
      by_cases e1 : a0 = a2
      · subst e1
        go_wp2
        go_ret
        exact ⟨rfl, by go_grown⟩
      · have b1 := bytes_ne e1
        clear e1
        go_wp2
        go_ret
        exact ⟨rfl, by go_grown⟩
    · have ne' := nonempty_of r2
      clear r1 r2
      go_wp2_with fail
      refine (string_set a2 a3 _ ne' (by omega) (by omega)).mono ?_
      rintro e w' ⟨rfl, rfl⟩
      by_cases e1 : a0 = a2
      · subst e1
        by_cases e2 : a1 = a3
        · subst e2
          generalize a0 ++ ⟨#[35]⟩ ++ a1 = s at *
          go_wp2
          go_ret
          exact ⟨rfl, by go_grown⟩
        · have b1 := bytes_ne e2
          have b3 := bytes_ne (fun e => e2 (joined_inj (r := a1) (r' := a3) HT.out HT'.out e).2)
          clear e2
          generalize a0 ++ ⟨#[35]⟩ ++ a1 = s at *
          generalize a0 ++ ⟨#[35]⟩ ++ a3 = s' at *
          go_wp2
          go_ret
          exact ⟨rfl, by go_grown⟩
      · have b1 := bytes_ne e1
        have b3 := bytes_ne (fun e => e1 (joined_inj (r := a1) (r' := a3) HT.out HT'.out e).1)
        clear e1
        generalize a0 ++ ⟨#[35]⟩ ++ a1 = s at *
        generalize a2 ++ ⟨#[35]⟩ ++ a3 = s' at *
        go_wp2
        go_ret
        exact ⟨rfl, by go_grown⟩

/-! ### THE ROW's STEP: WRITTEN OUT: LEAVE IT -/
set_option maxRecDepth 100000 in
theorem lifted (os : Os) (started : os.Started) (H : Type) (enc : TypeId × Value → H) :
    ReturnsInHanded {} Try.checked os 4 .any (Rows.fnSubjectTypeStringInjectiveSpec.pre6 enc Try.prog Try.f4 Rows.fnSubjectTypeStringInjectiveRow.domain false) (Rows.fnSubjectTypeStringInjectiveSpec.post enc Try.prog Try.f4 false true false false) := by
  refine returnsInHanded_of_change (C := Try.checked) own started (by kernel_rfl) Try.func4
    (ChangeSpec.witness6 (enc := enc) (C := Try.checked) false ⟨#[], #[.string ByteArray.empty, .string ByteArray.empty, .string ByteArray.empty, .string ByteArray.empty], []⟩ 8 (by kernel_rfl) (by kernel_rfl) (by kernel_rfl) (by kernel_rfl)) ?_
  intro W base args ds gs before hval0 hW hcnd _
  have hval : ∀ (j : Nat) t v, Try.f4.params[j]? = some t → args[j]? = some v → Value.okWide Try.prog W .any base t v := hval0
  have hW' := hW
  obtain ⟨p, q, hA0, hV, rfl, hfz, hnd⟩ := hW
  have hA : DataW.TrodAll enc Try.prog W 0 (fun _ => true) true Try.f4.params.toList args.toList ds p := hA0
  rw [Try.params4] at hA hval
  obtain ⟨v0, vs0, d0, ds0, p0, q0, hargs, rfl, rfl, h0, r0⟩ := trodAll_cons hA
  obtain ⟨v1, vs1, d1, ds1, p1, q1, rfl, rfl, rfl, h1, r1⟩ := trodAll_cons r0
  obtain ⟨v2, vs2, d2, ds2, p2, q2, rfl, rfl, rfl, h2, r2⟩ := trodAll_cons r1
  obtain ⟨v3, vs3, d3, ds3, p3, q3, rfl, rfl, rfl, h3, r3⟩ := trodAll_cons r2
  obtain ⟨rfl, rfl, rfl⟩ := trodAll_nil r3
  obtain rfl : args = #[v0, v1, v2, v3] := by cases args; simp_all
  obtain ⟨rfl, rfl⟩ := trodVars_none hV
  obtain ⟨a0, rfl, rfl, rfl, w0⟩ := open_string Try.underlying9 (hval 0 9 v0 rfl rfl) h0
  obtain ⟨a1, rfl, rfl, rfl, w1⟩ := open_string Try.underlying9 (hval 1 9 v1 rfl rfl) h1
  obtain ⟨a2, rfl, rfl, rfl, w2⟩ := open_string Try.underlying9 (hval 2 9 v2 rfl rfl) h2
  obtain ⟨a3, rfl, rfl, rfl, w3⟩ := open_string Try.underlying9 (hval 3 9 v3 rfl rfl) h3
  clear hA0 hval0
  simp only [List.append_nil] at hW'
  refine (walk a0 a1 a2 a3 w0 w1 w2 w3 W).mono fun e W' ⟨he, hg⟩ => ?_
  subst he
  exact ⟨_, rfl, post_of_same (pa := []) (pv := []) hW' (fun _ _ _ => (trodAll_cons_mk (shut_bool Try.underlying4 _) trodAll_mk0)) (fun sp _ => (trodAll_cons_mk (shut_string Try.underlying9 w0) (trodAll_cons_mk (shut_string Try.underlying9 w1) (trodAll_cons_mk (shut_string Try.underlying9 w2) (trodAll_cons_mk (shut_string Try.underlying9 w3) trodAll_mk0))))) (fun _ _ => rfl) rfl
    (hg.frame _) hg.2.1 (ok_one (by kernel_rfl) rfl (okWide_bool_mk Try.underlying4 _))⟩

theorem over : Rows.fnSubjectTypeStringInjectiveRow.holds Try.pinned (OpenSpec.ofChange Rows.fnSubjectTypeStringInjectiveSpec) :=
  OpenClaim.holds_of_wide 4 Try.f4 rfl rfl rfl rfl rfl rfl rfl ⟨rfl, rfl, rfl, rfl, rfl⟩ rfl rfl rfl rfl rfl (by kernel_rfl) Try.func4 (by kernel_rfl)
    (of_decide_eq_true (by kernel_rfl)) (by unfold Func.isWrapper; first | (rw [if_pos (by decide +kernel)]; kernel_rfl) | (rw [if_neg (by decide +kernel)]; exact ⟨rfl, rfl⟩))
    (fun os started H enc _ => lifted os started H enc)

/-- ████ THE STATEMENT ████ -/
theorem proved : Rows.FnSubjectTypeStringInjectiveSaid :=
  over
end Go.Proofs.Qxb6626486a.fnSubjectTypeStringInjective
