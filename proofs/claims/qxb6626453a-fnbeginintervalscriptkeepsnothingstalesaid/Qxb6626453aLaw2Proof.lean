/-
  FnBeginIntervalScriptKeepsNothingStale: the row, out of the walk.
-/
import Derived.Test.Qxb6626453aLaw2
import Derived.Test.Qxb6626453aOpen
import Derived.ChangeOld
import Derived.ShutString
namespace Go.Proofs.Qxb6626453a.law2
open Go.ChangeShapes Go.WideShapes Go.ChangeAt Go.RowKit
set_option linter.unusedVariables false

theorem own : ownKnob Try.prog.godebug = none := by kernel_rfl
theorem laidOut : laidOutB Try.prog = true := by kernel_rfl

theorem cells22 : Try.prog.cellsOf 22 = 1 := by kernel_rfl

/-- The epochs, by what they hold. -/
theorem row_u64 {H : Type} {enc : TypeId × Value → H} {w : World} {base : Nat} {spare : Nat → Bool} {held : Bool} {a : Option Addr} {n c : Nat} {d : DataW H} {p : List MemPlace}
    (h : DataW.Trod enc Try.prog w base spare held 45 (.slice a n c) d p) : ∃ E : Nat → Int, n ≤ maxLen ∧ Row w (.slice a n c) n (fun i => .int .u64 (E i)) := by
  obtain ⟨fuel, hf⟩ := h
  rcases open_ints Try.underlying45 Try.underlying22 cells22 hf with ⟨hcs, _⟩ | ⟨x, l, c', zs, hcs, _, hl, hm, hz, _, hcell, _⟩
  · simp [Value.cells] at hcs
    obtain ⟨rfl, rfl, rfl⟩ := hcs
    exact ⟨fun _ => 0, Nat.zero_le _, none, 0, rfl, fun h => by omega⟩
  · simp [Value.cells] at hcs
    obtain ⟨rfl, rfl, rfl⟩ := hcs
    have hlz : n ≤ zs.length := by rw [hz]; split <;> omega
    refine ⟨fun i => zs.getD i 0, by omega, some x, c, rfl, fun hn => ?_⟩
    obtain ⟨b, off, spot⟩ := x
    have hspot : spot = none := by simpa [Addr.add] using World.cell?_spot (hcell 0 (by omega))
    subst hspot
    exact ⟨b, off, rfl, fun i hi => by have := hcell i (by omega); rwa [add_plain] at this⟩

set_option maxRecDepth 100000 in
theorem lifted (os : Os) (started : os.Started) (H : Type) (enc : TypeId × Value → H) :
    ReturnsInHanded {} Try.checked os 4 .any (Rows.fnBeginIntervalScriptKeepsNothingStaleSpec.pre6 enc Try.prog Try.f4 Rows.fnBeginIntervalScriptKeepsNothingStaleRow.domain false) (Rows.fnBeginIntervalScriptKeepsNothingStaleSpec.post enc Try.prog Try.f4 false true false false) := by
  refine returnsInHanded_of_change (C := Try.checked) own started (by kernel_rfl) Try.func4
    (ChangeSpec.witness6 (enc := enc) (C := Try.checked) false ⟨#[], #[.agg #[.string ByteArray.empty, .int .u64 0, .int .u64 0, .int .u64 0, .int .u64 0, .bool false, .int .u64 0, .string ByteArray.empty, .string ByteArray.empty, .bool false, .int .u64 0, .slice none 0 0, .slice none 0 0, .int .u64 0], .slice none 0 0], []⟩ 8 (by kernel_rfl) (by kernel_rfl) (by kernel_rfl) (by kernel_rfl)) ?_
  intro W base args ds gs before hval0 hW hcnd _
  have hval : ∀ (j : Nat) t v, Try.f4.params[j]? = some t → args[j]? = some v → Value.okWide Try.prog W .any base t v := hval0
  have hW' := hW
  obtain ⟨p, q, hA0, hV, rfl, hfz, hnd⟩ := hW
  have hA : DataW.TrodAll enc Try.prog W 0 (fun _ => true) true Try.f4.params.toList args.toList ds p := hA0
  rw [Try.params4] at hA hval
  obtain ⟨v0, vs0, d0, ds0, p0, q0, hargs, rfl, rfl, h0, r0⟩ := trodAll_cons hA
  obtain ⟨v1, vs1, d1, ds1, p1, q1, rfl, rfl, rfl, h1, r1⟩ := trodAll_cons r0
  obtain ⟨rfl, rfl, rfl⟩ := trodAll_nil r1
  obtain rfl : args = #[v0, v1] := by cases args; simp_all
  obtain ⟨rfl, rfl⟩ := trodVars_none hV
  have k0 := h0
  have lt0 : ∀ x ∈ p0, x.block < W.heap.size := by obtain ⟨m, hm⟩ := k0; exact DataW.trod_lt m _ _ _ hm
  obtain ⟨X, va, vk, rfl, ok, ha, hk⟩ := open_state (hval 0 26 v0 rfl rfl) h0
  obtain ⟨ep, ne, ce, rfl⟩ := okWide_slice Try.underlying45 (hval 1 45 v1 rfl rfl)
  have k1 := h1
  have lt1 : ∀ x ∈ p1, x.block < W.heap.size := by obtain ⟨m, hm⟩ := k1; exact DataW.trod_lt m _ _ _ hm
  obtain ⟨E, hne, he⟩ := row_u64 h1
  clear hA0 hval0
  refine (Go.Proofs.Qxb6626453a.law2 X va vk ep ne ce E W ok hne ha hk he).mono fun e W' ⟨he, bel⟩ => ?_
  subst he
  exact ⟨_, rfl, _, _, _, [], _, [], hW', trodAll_mk1 (shut_bool Try.underlying4 _), (trodAll_cons_mk (Below.trod laidOut (by kernel_rfl) (of_decide_eq_true (by kernel_rfl)) k0 bel lt0) (trodAll_cons_mk (Below.trod laidOut (by kernel_rfl) (of_decide_eq_true (by kernel_rfl)) k1 bel lt1) trodAll_mk0)), rfl, bel.frame _, fun h => by cases h⟩

theorem over : Rows.fnBeginIntervalScriptKeepsNothingStaleRow.holds Try.pinned (OpenSpec.ofChange Rows.fnBeginIntervalScriptKeepsNothingStaleSpec) :=
  OpenClaim.holds_of_wide 4 Try.f4 rfl rfl rfl rfl rfl rfl rfl ⟨rfl, rfl, rfl, rfl, rfl⟩ rfl rfl rfl rfl rfl (by kernel_rfl) Try.func4 (by kernel_rfl)
    (of_decide_eq_true (by kernel_rfl)) (by unfold Func.isWrapper; first | (rw [if_pos (by decide +kernel)]; kernel_rfl) | (rw [if_neg (by decide +kernel)]; exact ⟨rfl, rfl⟩))
    (fun os started H enc _ => lifted os started H enc)

/-- The statement. -/
theorem proved : Rows.FnBeginIntervalScriptKeepsNothingStaleSaid := over
end Go.Proofs.Qxb6626453a.law2
