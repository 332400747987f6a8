/-
  The argument opened: a BookkeeperState as it comes in.
-/
import Derived.Test.Qxb6626453aSizes
import Derived.Lib.SmallJoins
namespace Go.Proofs.Qxb6626453a
open Go.ChangeShapes Go.WideShapes Go.ChangeAt Go.RowKit Go.Deep

theorem cells26 : Try.prog.cellsOf 26 = 14 := by kernel_rfl
theorem cells9 : Try.prog.cellsOf 9 = 1 := by kernel_rfl
theorem cells4 : Try.prog.cellsOf 4 = 1 := by kernel_rfl

section
variable {H : Type} {enc : TypeId × Value → H} {P : Program} {w : World} {base : Nat} {spare : Nat → Bool} {held : Bool}

/-- A struct by value, each field of one cell. -/
theorem open_agg {r : Reach} {b0 : Nat} {t : TypeId} {fs : Array Field} {v : Value} {d : DataW H} {p : List MemPlace} (hs : P.underlying t = some (.struct fs)) (hone : oneCellFields P fs = true) (hC : P.cellsOf t = fs.size)
    (hv : Value.okWide P w r b0 t v) (h : DataW.Trod enc P w base spare held t v d p) :
    ∃ (cs : Array Value) (n : Nat), v = .agg cs ∧ cs.size = fs.size ∧ ∀ (i : Nat) (f : Field), fs[i]? = some f → ∃ c y, cs[i]? = some c ∧ DataW.trod enc P w base spare held n f.type [c] = some y := by
  obtain ⟨cs, rfl, hsz⟩ := okWide_struct hs hv
  obtain ⟨fuel, hf⟩ := h
  obtain ⟨xs, n, _, _, hl, hlen, hfi⟩ := DataW.trod_struct hs hf
  refine ⟨cs, n, rfl, hsz.trans hC, fun i f hi => ?_⟩
  have hlt : i < fs.size := (Array.getElem?_eq_some_iff.1 hi).1
  obtain ⟨ho, hk⟩ := hone_of hone i f hi
  have h1 := hfi i f hi
  have hcs : i < cs.size := by omega
  rw [ho, hk] at h1
  have e1 : ((Value.agg cs).cells.toList.drop i).take 1 = [cs[i]] := by
    simp only [Value.cells]
    rw [List.drop_eq_getElem_cons (by simpa using hcs)]
    simp
  rw [e1, List.getElem?_eq_getElem (by omega)] at h1
  exact ⟨cs[i], _, Array.getElem?_eq_getElem hcs, h1⟩

/-- A slice of strings, by what it holds. -/
theorem row_strings {t : TypeId} {fuel : Nat} {c : Value} {x : DataW H × List MemPlace} {e : TypeId} (ht : P.underlying t = some (.slice e)) (he : P.underlying e = some .string) (hc : P.cellsOf e = 1)
    (h : DataW.trod enc P w base spare held fuel t [c] = some x) : ∃ (n : Nat) (S : Nat → ByteArray), n ≤ maxLen ∧ (∀ i, (S i).size ≤ maxLen) ∧ Row w c n (fun i => .string (S i)) := by
  rcases open_strs ht he hc h with ⟨h0, _⟩ | ⟨a, len, cap, m, Sx, hcs, _, hl, hm, hmm, _, hx⟩
  · simp at h0
    subst h0
    exact ⟨0, fun _ => ByteArray.empty, by unfold maxLen; omega, fun _ => Nat.zero_le _, none, 0, rfl, fun h => by omega⟩
  · simp at hcs
    subst hcs
    have hlm : len ≤ m := by rw [hmm]; split <;> omega
    refine ⟨len, fun i => if i < len then Sx i else ByteArray.empty, by omega, fun i => ?_, some a, cap, rfl, fun hn => ?_⟩
    · dsimp only
      split
      · exact (hx i (by omega)).2
      · exact Nat.zero_le _
    · obtain ⟨b, off, spot⟩ := a
      have hspot : spot = none := by simpa [Addr.add] using World.cell?_spot (hx 0 (by omega)).1
      subst hspot
      refine ⟨b, off, rfl, fun i hi => ?_⟩
      dsimp only
      rw [if_pos hi, ← add_plain]
      exact (hx i (by omega)).1

/-- A slice of bools, by what it holds. -/
theorem row_bools {t : TypeId} {fuel : Nat} {c : Value} {x : DataW H × List MemPlace} {e : TypeId} (ht : P.underlying t = some (.slice e)) (he : P.underlying e = some .bool) (hc : P.cellsOf e = 1)
    (h : DataW.trod enc P w base spare held fuel t [c] = some x) : ∃ (n : Nat) (S : Nat → Bool), n ≤ maxLen ∧ Row w c n (fun i => .bool (S i)) := by
  rcases open_slice1 ht hc h with ⟨h0, _⟩ | ⟨a, len, cap, m, n, V, D, Pl, hcs, _, hl, hm, hmm, _, hx⟩
  · simp at h0
    subst h0
    exact ⟨0, fun _ => false, by unfold maxLen; omega, none, 0, rfl, fun h => by omega⟩
  · simp at hcs
    subst hcs
    have hlm : len ≤ m := by rw [hmm]; split <;> omega
    have each : ∀ i, i < m → ∃ s : Bool, V i = .bool s := fun i hi => by
      obtain ⟨s, h1, _⟩ := DataW.trod_bool he (hx i hi).2
      exact ⟨s, by simpa using h1⟩
    obtain ⟨Sx, hS⟩ := choose_lt each
    refine ⟨len, Sx, by omega, some a, cap, rfl, fun hn => ?_⟩
    obtain ⟨b, off, spot⟩ := a
    have hspot : spot = none := by simpa [Addr.add] using World.cell?_spot (hx 0 (by omega)).1
    subst hspot
    refine ⟨b, off, rfl, fun i hi => ?_⟩
    have := (hx i (by omega)).1
    rw [add_plain, hS i (by omega)] at this
    exact this
end

theorem array14 {cs : Array Value} (h : cs.size = 14) : ∃ c0 c1 c2 c3 c4 c5 c6 c7 c8 c9 c10 c11 c12 c13, cs = #[c0, c1, c2, c3, c4, c5, c6, c7, c8, c9, c10, c11, c12, c13] := by
  obtain ⟨l⟩ := cs
  match l, h with
  | [c0, c1, c2, c3, c4, c5, c6, c7, c8, c9, c10, c11, c12, c13], _ => exact ⟨_, _, _, _, _, _, _, _, _, _, _, _, _, _, rfl⟩

theorem open_state {H : Type} {enc : TypeId × Value → H} {w : World} {base : Nat} {spare : Nat → Bool} {held : Bool} {r : Reach} {b0 : Nat} {v : Value} {d : DataW H} {p : List MemPlace}
    (hv : Value.okWide Try.prog w r b0 26 v) (h : DataW.Trod enc Try.prog w base spare held 26 v d p) :
    ∃ (X : St) (va vk : Value), v = stVal X va vk ∧ X.Ok ∧ Row w va X.na (fun i => .string (X.S i)) ∧ Row w vk X.nk (fun i => .bool (X.K i)) := by
  obtain ⟨cs, n, rfl, hsz, hf⟩ := open_agg Try.underlying26 (by kernel_rfl) (by rw [cells26]; rfl) hv h
  obtain ⟨c0, c1, c2, c3, c4, c5, c6, c7, c8, c9, c10, c11, c12, c13, rfl⟩ := array14 hsz
  obtain ⟨_, y0, e0, t0⟩ := hf 0 _ rfl
  obtain ⟨_, y1, e1, t1⟩ := hf 1 _ rfl
  obtain ⟨_, y2, e2, t2⟩ := hf 2 _ rfl
  obtain ⟨_, y3, e3, t3⟩ := hf 3 _ rfl
  obtain ⟨_, y4, e4, t4⟩ := hf 4 _ rfl
  obtain ⟨_, y5, e5, t5⟩ := hf 5 _ rfl
  obtain ⟨_, y6, e6, t6⟩ := hf 6 _ rfl
  obtain ⟨_, y7, e7, t7⟩ := hf 7 _ rfl
  obtain ⟨_, y8, e8, t8⟩ := hf 8 _ rfl
  obtain ⟨_, y9, e9, t9⟩ := hf 9 _ rfl
  obtain ⟨_, y10, e10, t10⟩ := hf 10 _ rfl
  obtain ⟨_, y11, e11, t11⟩ := hf 11 _ rfl
  obtain ⟨_, y12, e12, t12⟩ := hf 12 _ rfl
  obtain ⟨_, y13, e13, t13⟩ := hf 13 _ rfl
  cases e0; cases e1; cases e2; cases e3; cases e4; cases e5; cases e6; cases e7; cases e8; cases e9; cases e10; cases e11; cases e12; cases e13
  obtain ⟨s0, q0, _, k0⟩ := DataW.trod_string Try.underlying9 t0
  obtain ⟨s1, q1, _, _⟩ := DataW.trod_int Try.underlying22 t1
  obtain ⟨s2, q2, _, _⟩ := DataW.trod_int Try.underlying22 t2
  obtain ⟨s3, q3, _, _⟩ := DataW.trod_int Try.underlying22 t3
  obtain ⟨s4, q4, _, _⟩ := DataW.trod_int Try.underlying22 t4
  obtain ⟨s5, q5, _⟩ := DataW.trod_bool Try.underlying4 t5
  obtain ⟨s6, q6, _, _⟩ := DataW.trod_int Try.underlying22 t6
  obtain ⟨s7, q7, _, k7⟩ := DataW.trod_string Try.underlying9 t7
  obtain ⟨s8, q8, _, k8⟩ := DataW.trod_string Try.underlying9 t8
  obtain ⟨s9, q9, _⟩ := DataW.trod_bool Try.underlying4 t9
  obtain ⟨s10, q10, _, _⟩ := DataW.trod_int Try.underlying22 t10
  obtain ⟨na, S, ha1, ha2, ha3⟩ := row_strings Try.underlying23 Try.underlying9 cells9 t11
  obtain ⟨nk, K, hk1, hk2⟩ := row_bools Try.underlying24 Try.underlying4 cells4 t12
  obtain ⟨s13, q13, _, _⟩ := DataW.trod_int Try.underlying22 t13
  cases q0; cases q1; cases q2; cases q3; cases q4; cases q5; cases q6; cases q7; cases q8; cases q9; cases q10; cases q13
  exact ⟨⟨s0, s1, s2, s3, s4, s5, s6, s7, s8, s9, s10, na, S, nk, K, s13⟩, c11, c12, rfl, ⟨k0, k7, k8, ha1, ha2, hk1⟩, ha3, hk2⟩
end Go.Proofs.Qxb6626453a
