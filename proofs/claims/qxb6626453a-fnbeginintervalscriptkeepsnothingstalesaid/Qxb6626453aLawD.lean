/-
  What the script law's loop keeps.
-/
import Derived.Test.Qxb6626453aLawC
namespace Go.Proofs.Qxb6626453a
open Go.ChangeShapes Go.WideShapes Go.ChangeAt Go.RowKit

/-- The bookkeeper at block b once the intervals up to run have begun. -/
def Held (w : World) (lo b : Nat) (X : St) (run : Int) : Prop := Bk w lo b X (X.ho && decide (run ≤ X.oe)) (X.hl && decide (run ≤ X.le)) run

theorem Held.start {w : World} {lo b : Nat} {X : St} (h : Bk w lo b X X.ho X.hl X.bg) (hr : (X.hl = true → X.nk = X.na ∧ X.bg ≤ X.le) ∧ (X.ho = true → X.bg ≤ X.oe)) : Held w lo b X X.bg := by
  unfold Held
  have e1 : (X.ho && decide (X.bg ≤ X.oe)) = X.ho := by
    cases h : X.ho
    · rfl
    · rw [decide_eq_true (hr.2 h)]; rfl
  have e2 : (X.hl && decide (X.bg ≤ X.le)) = X.hl := by
    cases h : X.hl
    · rfl
    · rw [decide_eq_true (hr.1 h).2]; rfl
  rw [e1, e2]
  exact h

theorem Held.next {w' : World} {lo b : Nat} {X : St} {run ep run' : Int} (hrun : run' = max run ep)
    (h : Bk w' lo b X ((X.ho && decide (run ≤ X.oe)) && decide (ep ≤ X.oe)) ((X.hl && decide (run ≤ X.le)) && decide (ep ≤ X.le)) (max run ep)) : Held w' lo b X run' := by
  unfold Held
  rw [both_le, both_le, ← hrun] at h
  exact h

theorem Bk.drewN {w : World} {lo b : Nat} {X : St} {kO kL : Bool} {bg : Int} (h : Bk w lo b X kO kL bg) (n : Nat) : Bk (w.drewN n) lo b X kO kL bg := h.same (fun _ _ _ => rfl)
theorem Held.drewN {w : World} {lo b : Nat} {X : St} {run : Int} (h : Held w lo b X run) (n : Nat) : Held (w.drewN n) lo b X run := Bk.drewN h n

/-- The cells that the round reads. -/
theorem Bk.reads {w : World} {lo b : Nat} {X : St} {kO kL : Bool} {bg : Int} (h : Bk w lo b X kO kL bg) :
    ∃ po pl, w.cell? ⟨b, 5, none⟩ = some (.pointer po) ∧ w.cell? ⟨b, 6, none⟩ = some (.pointer pl) ∧ w.cell? ⟨b, 7, none⟩ = some (.int .u64 bg) ∧
      (kO = true → ∃ o, po = some ⟨o, 0, none⟩ ∧ w.cell? ⟨o, 0, none⟩ = some (.int .u64 X.oe)) ∧ (kO = false → po = none) ∧
      (kL = true → ∃ l, pl = some ⟨l, 0, none⟩ ∧ w.cell? ⟨l, 0, none⟩ = some (.int .u64 X.le)) ∧ (kL = false → pl = none) := by
  obtain ⟨o, l, va, vk, hlo, hb, hO, hL⟩ := h
  refine ⟨_, _, cell_of_block hb (i := 5) rfl, cell_of_block hb (i := 6) rfl, cell_of_block hb (i := 7) rfl, fun h => ⟨o, by rw [h]; rfl, cell_of_block (hO h).2.2 (i := 0) rfl⟩, fun h => by rw [h]; rfl, fun h => ⟨l, by rw [h]; rfl, cell_of_block (hL h).2.2.1 (i := 0) rfl⟩, fun h => by rw [h]; rfl⟩

theorem Held.snap {w : World} {lo b : Nat} {X : St} {run : Int} (h : Held w lo b X run) (hr : X.bg ≤ run) {kO kL : Bool} {oe : Int} {fr to : ByteArray} {le : Int} {na nk : Nat} {bg : Int} (sn : Snap X run kO kL oe fr to le na nk bg) : Bk w lo b X kO kL bg := by
  rw [sn.qkO, sn.qkL, sn.qbg, show max X.bg run = run from by omega]
  exact h

/-- bkExpect, the slices behind a name. -/
theorem Snap.expect {X : St} {m : Int} {kO kL : Bool} {oe : Int} {fr to : ByteArray} {le : Int} {na nk : Nat} {bg : Int} (h : Snap X m kO kL oe fr to le na nk bg) {w : World} {v1 v2 : Value} (r1 : Row w v1 X.na (fun i => .string (X.S i))) (r2 : Row w v2 X.nk (fun i => .bool (X.K i))) :
    Calls Try.prog 15 #[stVal X v1 v2, .int .u64 m] w fun e w' => ∃ a c k d, e = .returned (snapVal X kO oe fr to kL le (.slice a na c) (.slice k nk d) bg) ∧ Row w (.slice a na c) na (fun i => .string (X.S i)) ∧ Row w (.slice k nk d) nk (fun i => .bool (X.K i)) ∧ Below w.heap.size w w' := by
  obtain ⟨va, vk, ra, rk, hx⟩ := h.rows r1 r2
  refine (hx w ⟨w, Below.refl _ _⟩ r1 r2).mono ?_
  rintro e w' ⟨he, y, rfl⟩
  obtain ⟨a, c, rfl, ra⟩ := ra
  obtain ⟨k, d, rfl, rk⟩ := rk
  exact ⟨a, c, k, d, he, ⟨a, c, rfl, ra⟩, ⟨k, d, rfl, rk⟩, y.h⟩

/-- bkStateBytes, with bounds. -/
def IntPostB (w : World) (e : Ending) (w' : World) : Prop := ∃ n : Int, e = .returned (.int .i64 n) ∧ 0 ≤ n ∧ n ≤ 4000000 ∧ Below w.heap.size w w'

theorem stateBytesB (X : St) (va vk : Value) (w : World) (ok : X.Ok) (ha : Row w va X.na (fun i => .string (X.S i))) (hk : Row w vk X.nk (fun i => .bool (X.K i))) :
    Calls Try.prog 6 #[stVal X va vk] w (IntPostB w) := by
  obtain ⟨a, ca, rfl, ha⟩ := ha
  obtain ⟨k, ck, rfl, hk⟩ := hk
  clear hk
  obtain ⟨o1, o2, o3, o4, o5, o6⟩ := ok
  unfold maxLen at o1 o2 o3 o4 o5 o6
  unfold stVal
  go_enter Try.func6, Try.ntmps6
  go_wp2_with (go_at_call 21; refine (bkAdd_any _ _ _ (by omega) (by omega) (by omega)).mono ?_; rintro e w' ⟨⟨m, rfl, h0, h1⟩, rfl⟩)
  any_goals (go_ret; exact ⟨_, rfl, by omega, by omega, by go_grown⟩)
  go_loop [3, 4] (fun z i => ∃ (n : Int) (k : Nat), 0 ≤ n ∧ n ≤ 1048576 ∧ k ≤ X.na ∧ z = .int .i64 n ∧ i = .int .i64 k) (fun _ i => X.na - (intOf i).toNat)
  case atStart => exact ⟨_, 0, by omega, by omega, by omega, rfl, rfl⟩
  case round =>
    obtain ⟨n, k, h0, h1, hk, rfl, rfl⟩ := hrel
    by_cases hlt : k < X.na
    · obtain ⟨b1, b2, hA, ha1⟩ := ha (by omega)
      subst hA
      have hlt1 : b1 < w.heap.size := block_lt_of_cell (ha1 0 (by omega))
      have g1 := ha1 k hlt
      have g5 := o5 k
      clear ha ha1 o5
      go_wp2_with (go_at_call 21; refine (bkAdd_any _ _ _ (by omega) (by omega) (by omega)).mono ?_; rintro e w' ⟨⟨m, rfl, h0, h1⟩, rfl⟩)
      · go_ret
        exact ⟨_, rfl, by omega, by omega, by go_grown⟩
      · exact ⟨⟨_, k + 1, by omega, by omega, by omega, rfl, by go_num⟩, by simp [intOf]; omega⟩
    · clear ha o5
      go_wp2
      go_ret
      exact ⟨_, rfl, by omega, by omega, by go_grown⟩

end Go.Proofs.Qxb6626453a
