/-
  FnSubjectTypeStringParsesBack: the walk, and the row out of it (the frame: written by the kit's skeleton tool).
-/
import Derived.Test.Qxb6626486aBase
namespace Go.Proofs.Qxb6626486a.fnSubjectTypeStringParsesBack
open Go.ChangeShapes Go.WideShapes Go.ChangeAt Go.RowKit
open Go.ChangeMaps (open_string shut_string)
set_option linter.unusedVariables false      -- a walk need not use every 'w<i>' (that an integer argument fits its kind)

theorem own : ownKnob Try.prog.godebug = none := by kernel_rfl

/-! ### STEP 1: THE WALK: the Go text returns true. 'Grown w w'': the world has at most new blocks (Derived/RowKit3.lean). Part the cases AHEAD of 'go_enter' where a test parts the walk; take each callee by a contract of your own. -/
theorem walk (a0 : ByteArray) (a1 : ByteArray) (w0 : a0.size ≤ maxLen) (w1 : a1.size ≤ maxLen) (w : World) :
    Calls Try.prog 3 #[.string a0, .string a1] w fun e w' => e = .returned (.bool true) ∧ Grown w w' := by
  go_enter Try.func3, Try.ntmps3
  go_wp2_with fail
  refine (size2 a0 a1 w w0 w1).mono ?_
  rintro e w' ⟨b, rfl, hb, hw⟩
  replace hw := hw.symm
  subst hw
  cases b with
  | false =>
    go_wp2
    go_ret
    exact ⟨rfl, Grown.refl _⟩
  | true =>
  have hsz := hb rfl
  clear hb w0 w1
  go_wp2_with fail
  refine (indexHash a0 w (by omega)).mono ?_
  rintro e w' ⟨n, rfl, hn, hw⟩
  replace hw := hw.symm
  subst hw
  by_cases h0 : 0 ≤ n
  · go_wp2
    go_ret
    exact ⟨rfl, Grown.refl _⟩
  have ht : ∀ j (h : j < a0.size), a0[j] ≠ 35 := by
    rcases hn with ⟨_, h⟩ | ⟨k, _, rfl, _⟩
    · exact h
    · omega
  have HT : Hid (∀ j (h : j < a0.size), a0[j] ≠ 35) := ht
  clear hn ht
  by_cases hr : a1 = ByteArray.empty
  · subst hr
    go_wp2_with fail
    refine (string_bare a0 _).mono ?_
    rintro e w' ⟨rfl, rfl⟩
    go_wp2_with fail
    refine (indexHash a0 _ (by omega)).mono ?_
    rintro e w' ⟨m, rfl, hm, rfl⟩
    have h1 : m = -1 := by
      rcases hm with ⟨rfl, _⟩ | ⟨k, hk, _, h, _⟩
      · rfl
      · exact absurd h (HT.out k hk)
    subst h1
    clear hm
    go_wp2
    go_ret
    exact ⟨rfl, by go_grown⟩
  · have he : a1.toList.isEmpty = false := nonempty_of hr
    clear hr
    go_wp2_with fail
    refine (string_set a0 a1 _ he (by omega) (by omega)).mono ?_
    rintro e w' ⟨rfl, rfl⟩
    have hj := joined_size a0 a1
    have hd := head_joined a0 a1
    have tl := tail_joined a0 a1
    have HJ := joined_size a0 a1
    have hash := fun n => hash_joined (r := a1) (n := n) HT.out
    generalize a0 ++ ⟨#[35]⟩ ++ a1 = s at *
    have HD : Hid (s.extract 0 a0.size = a0) := hd
    have TL : Hid (s.extract (a0.size + 1) s.size = a1) := tl
    have HH : Hid (∀ n, Hash s n → n = a0.size) := hash
    clear hj hd tl hash
    have hle : a0.size + 1 ≤ s.size := by omega
    have hle2 : s.size ≤ 1048577 := by omega
    have HS : Hid (s.size = a0.size + 1 + a1.size) := HJ
    clear HJ
    go_wp2_with fail
    refine (indexHash s _ (by omega)).mono ?_
    rintro e w' ⟨m, rfl, hm, rfl⟩
    have e1 := HH.out m hm
    subst e1
    clear hm
    have hd := HD.out
    have tl := TL.out
    go_wp2
    go_ret
    exact ⟨rfl, by go_grown⟩

/-! ### THE ROW's STEP: WRITTEN OUT: LEAVE IT -/
set_option maxRecDepth 100000 in
theorem lifted (os : Os) (started : os.Started) (H : Type) (enc : TypeId × Value → H) :
    ReturnsInHanded {} Try.checked os 3 .any (Rows.fnSubjectTypeStringParsesBackSpec.pre6 enc Try.prog Try.f3 Rows.fnSubjectTypeStringParsesBackRow.domain false) (Rows.fnSubjectTypeStringParsesBackSpec.post enc Try.prog Try.f3 false true false false) := by
  refine returnsInHanded_of_change (C := Try.checked) own started (by kernel_rfl) Try.func3
    (ChangeSpec.witness6 (enc := enc) (C := Try.checked) false ⟨#[], #[.string ByteArray.empty, .string ByteArray.empty], []⟩ 8 (by kernel_rfl) (by kernel_rfl) (by kernel_rfl) (by kernel_rfl)) ?_
  intro W base args ds gs before hval0 hW hcnd _
  have hval : ∀ (j : Nat) t v, Try.f3.params[j]? = some t → args[j]? = some v → Value.okWide Try.prog W .any base t v := hval0
  have hW' := hW
  obtain ⟨p, q, hA0, hV, rfl, hfz, hnd⟩ := hW
  have hA : DataW.TrodAll enc Try.prog W 0 (fun _ => true) true Try.f3.params.toList args.toList ds p := hA0
  rw [Try.params3] at hA hval
  obtain ⟨v0, vs0, d0, ds0, p0, q0, hargs, rfl, rfl, h0, r0⟩ := trodAll_cons hA
  obtain ⟨v1, vs1, d1, ds1, p1, q1, rfl, rfl, rfl, h1, r1⟩ := trodAll_cons r0
  obtain ⟨rfl, rfl, rfl⟩ := trodAll_nil r1
  obtain rfl : args = #[v0, v1] := by cases args; simp_all
  obtain ⟨rfl, rfl⟩ := trodVars_none hV
  obtain ⟨a0, rfl, rfl, rfl, w0⟩ := open_string Try.underlying9 (hval 0 9 v0 rfl rfl) h0
  obtain ⟨a1, rfl, rfl, rfl, w1⟩ := open_string Try.underlying9 (hval 1 9 v1 rfl rfl) h1
  clear hA0 hval0
  simp only [List.append_nil] at hW'
  refine (walk a0 a1 w0 w1 W).mono fun e W' ⟨he, hg⟩ => ?_
  subst he
  exact ⟨_, rfl, post_of_same (pa := []) (pv := []) hW' (fun _ _ _ => (trodAll_cons_mk (shut_bool Try.underlying4 _) trodAll_mk0)) (fun sp _ => (trodAll_cons_mk (shut_string Try.underlying9 w0) (trodAll_cons_mk (shut_string Try.underlying9 w1) trodAll_mk0))) (fun _ _ => rfl) rfl
    (hg.frame _) hg.2.1 (ok_one (by kernel_rfl) rfl (okWide_bool_mk Try.underlying4 _))⟩

theorem over : Rows.fnSubjectTypeStringParsesBackRow.holds Try.pinned (OpenSpec.ofChange Rows.fnSubjectTypeStringParsesBackSpec) :=
  OpenClaim.holds_of_wide 3 Try.f3 rfl rfl rfl rfl rfl rfl rfl ⟨rfl, rfl, rfl, rfl, rfl⟩ rfl rfl rfl rfl rfl (by kernel_rfl) Try.func3 (by kernel_rfl)
    (of_decide_eq_true (by kernel_rfl)) (by unfold Func.isWrapper; first | (rw [if_pos (by decide +kernel)]; kernel_rfl) | (rw [if_neg (by decide +kernel)]; exact ⟨rfl, rfl⟩))
    (fun os started H enc _ => lifted os started H enc)

/-- ████ THE STATEMENT ████ -/
theorem proved : Rows.FnSubjectTypeStringParsesBackSaid :=
  over
end Go.Proofs.Qxb6626486a.fnSubjectTypeStringParsesBack
