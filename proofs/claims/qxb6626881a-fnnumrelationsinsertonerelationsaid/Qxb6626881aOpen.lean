/-
  The arguments opened: a slice of strings, a slice of slices of strings.
-/
import Derived.Test.Qxb6626881aLoops
import Derived.Lib.SmallJoins
namespace Go.Proofs.Qxb6626881a
open Go.ChangeShapes Go.WideShapes Go.ChangeAt Go.RowKit Go.Deep

theorem cells9 : Try.prog.cellsOf 9 = 1 := by kernel_rfl
theorem cells22 : Try.prog.cellsOf 22 = 1 := by kernel_rfl

section
variable {H : Type} {enc : TypeId × Value → H} {w : World} {base : Nat} {spare : Nat → Bool} {held : Bool}

/-- A slice of strings, by what it holds. -/
theorem row_strings {fuel : Nat} {c : Value} {x : DataW H × List MemPlace} (h : DataW.trod enc Try.prog w base spare held fuel 22 [c] = some x) :
    ∃ (n : Nat) (S : Nat → ByteArray), n ≤ maxLen ∧ (∀ i, (S i).size ≤ maxLen) ∧ Row w c n (fun i => .string (S i)) := by
  rcases open_strs Try.underlying22 Try.underlying9 cells9 h with ⟨h0, _⟩ | ⟨a, len, cap, m, Sx, hcs, _, hl, hm, hmm, _, hx⟩
  · simp at h0
    subst h0
    exact ⟨0, fun _ => ByteArray.empty, by unfold maxLen; omega, fun _ => Nat.zero_le _, none, 0, rfl, fun h => by omega⟩
  · simp at hcs
    subst hcs
    have hlm : len ≤ m := by rw [hmm]; split <;> omega
    refine ⟨len, fun i => if i < len then Sx i else ByteArray.empty, by omega, fun i => ?_, some a, cap, rfl, fun hn => ?_⟩
    · dsimp only
      split
      · exact (hx i (by omega)).2
      · exact Nat.zero_le _
    · obtain ⟨b, off, spot⟩ := a
      have hspot : spot = none := by simpa [Addr.add] using World.cell?_spot (hx 0 (by omega)).1
      subst hspot
      refine ⟨b, off, rfl, fun i hi => ?_⟩
      dsimp only
      rw [if_pos hi, ← add_plain]
      exact (hx i (by omega)).1

/-- A slice of slices of strings, by what it holds. -/
theorem row_rels {fuel : Nat} {c : Value} {x : DataW H × List MemPlace} (h : DataW.trod enc Try.prog w base spare held fuel 23 [c] = some x) :
    ∃ (m : Nat) (ρ : Rel), m ≤ maxLen ∧ (∀ i, ρ.q i ≤ maxLen) ∧ (∀ i j, (ρ.Rn i j).size ≤ maxLen) ∧ RelRow w c m ρ ∧ ∃ a2 ca2, c = .slice a2 m ca2 ∧ m ≤ ca2 := by
  rcases open_slice1 Try.underlying23 cells22 h with ⟨h0, _⟩ | ⟨a, len, cap, m, n, V, D, Pl, hcs, _, hl, hm, hmm, _, hx⟩
  · simp at h0
    subst h0
    exact ⟨0, ⟨fun _ => none, fun _ => 0, fun _ => 0, fun _ _ => ByteArray.empty⟩, Nat.zero_le _, fun _ => Nat.zero_le _, fun _ _ => Nat.zero_le _, ⟨⟨_, _, rfl, fun h => absurd h (by omega)⟩, fun i hi => absurd hi (by omega)⟩, none, 0, rfl, Nat.le_refl _⟩
  · simp at hcs
    subst hcs
    have hlm : len ≤ m := by rw [hmm]; split <;> omega
    have each : ∀ i : Nat, ∃ y : Option Addr × Nat × Nat × (Nat → ByteArray), y.2.1 ≤ maxLen ∧ (∀ j, (y.2.2.2 j).size ≤ maxLen) ∧ (i < len → V i = .slice y.1 y.2.1 y.2.2.1 ∧ Row w (.slice y.1 y.2.1 y.2.2.1) y.2.1 (fun j => .string (y.2.2.2 j))) := fun i => by
      by_cases hi : i < len
      · obtain ⟨q, R, h1, h2, h3⟩ := row_strings (hx i (by omega)).2
        have h4 := h3
        obtain ⟨a', c', hv, _⟩ := h4
        exact ⟨(a', q, c', R), h1, h2, fun _ => ⟨hv, by rw [← hv]; exact h3⟩⟩
      · exact ⟨(none, 0, 0, fun _ => ByteArray.empty), Nat.zero_le _, fun _ => Nat.zero_le _, fun h => absurd h hi⟩
    obtain ⟨f, hf⟩ := Classical.axiomOfChoice each
    refine ⟨len, ⟨fun i => (f i).1, fun i => (f i).2.1, fun i => (f i).2.2.1, fun i => (f i).2.2.2⟩, by omega, fun i => (hf i).1, fun i => (hf i).2.1, ⟨⟨some a, cap, rfl, fun hn => ?_⟩, fun i hi => ((hf i).2.2 hi).2⟩, some a, cap, rfl, hl⟩
    obtain ⟨b, off, spot⟩ := a
    have hspot : spot = none := by simpa [Addr.add] using World.cell?_spot (hx 0 (by omega)).1
    subst hspot
    refine ⟨b, off, rfl, fun i hi => ?_⟩
    have := (hx i (by omega)).1
    rw [add_plain, ((hf i).2.2 hi).1] at this
    exact this
end
end Go.Proofs.Qxb6626881a
