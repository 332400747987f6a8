/-
  The functions on the two laws' road, each by its contract.
-/
import Derived.Test.Qxb6626515aRows
import Derived.WalkKit
import Derived.ProofKit
import Derived.OpenShut
import Derived.ShutString
import Derived.ChangeOld
import Derived.Below
import Derived.Handy
import Derived.WalkLawsBesides
namespace Go.Proofs.Qxb6626515a
open Go.ChangeShapes Go.WideShapes Go.ChangeAt Go.RowKit

theorem newOrder (a : Bool) (i s : Int) (w : World) :
    Calls Try.prog 5 #[.bool a, .int .i64 i, .int .i64 s] w fun e w' => e = .returned (.agg #[.bool a, .int .i64 i, .int .i64 s]) ∧ w' = w.alloc (.cells #[.bool a, .int .i64 i, .int .i64 s] 23) := by
  go_enter Try.func5, Try.ntmps5
  go_wp2
  exact bodyPost_ret (v := .agg #[.bool a, .int .i64 i, .int .i64 s]) (by simp [results, Try.results5, go_sem]) rfl ⟨rfl, rfl⟩

/-- How a heartbeat (i, s) stands to the greatest accepted one (i0, s0). -/
def judge (a : Bool) (i0 s0 i s : Int) : Int := if a = false ∨ i0 < i then 3 else if i < i0 then 0 else if s ≤ s0 then 1 else 2

theorem judge_any (a : Bool) (i0 s0 i s n : Int) (w : World) (hn : n = judge a i0 s0 i s) :
    Calls Try.prog 6 #[.agg #[.bool a, .int .i64 i0, .int .i64 s0], .int .i64 i, .int .i64 s] w fun e w' => e = .returned (.int .i64 n) ∧ w' = w.alloc (.cells #[.bool a, .int .i64 i0, .int .i64 s0] 23) := by
  subst hn
  unfold judge
  cases a with
  | false =>
    rw [if_pos (Or.inl rfl)]
    go_enter Try.func6, Try.ntmps6
    go_wp2
    go_ret
    exact ⟨rfl, rfl⟩
  | true =>
    by_cases h1 : i0 < i
    · rw [if_pos (Or.inr h1)]
      go_enter Try.func6, Try.ntmps6
      go_wp2
      go_ret
      exact ⟨rfl, rfl⟩
    · rw [if_neg (by rintro (h | h); exact absurd h (by simp); exact h1 h)]
      by_cases h2 : i < i0
      · rw [if_pos h2]
        go_enter Try.func6, Try.ntmps6
        go_wp2
        go_ret
        exact ⟨rfl, rfl⟩
      · rw [if_neg h2]
        by_cases h3 : s ≤ s0
        · rw [if_pos h3]
          go_enter Try.func6, Try.ntmps6
          go_wp2
          go_ret
          exact ⟨rfl, rfl⟩
        · rw [if_neg h3]
          go_enter Try.func6, Try.ntmps6
          go_wp2
          go_ret
          exact ⟨rfl, rfl⟩

/-- The order of incarnation first and sequence number second. -/
def less (a b c d : Int) : Bool := decide (a < c ∨ (a = c ∧ b < d))

theorem less_any (a b c d : Int) (r : Bool) (w : World) (hr : r = less a b c d) :
    Calls Try.prog 7 #[.int .i64 a, .int .i64 b, .int .i64 c, .int .i64 d] w fun e w' => e = .returned (.bool r) ∧ w' = w := by
  subst hr
  unfold less
  by_cases h : a = c
  · subst h
    by_cases h2 : b < d
    · rw [show decide (a < a ∨ (a = a ∧ b < d)) = true from decide_eq_true (by omega)]
      go_enter Try.func7, Try.ntmps7
      go_wp2
      go_ret
      exact ⟨by simp, rfl⟩
    · rw [show decide (a < a ∨ (a = a ∧ b < d)) = false from decide_eq_false (by omega)]
      go_enter Try.func7, Try.ntmps7
      go_wp2
      go_ret
      exact ⟨by simp, rfl⟩
  · have hb : (a != c) = true := by simpa using h
    by_cases h2 : a < c
    · rw [show decide (a < c ∨ (a = c ∧ b < d)) = true from decide_eq_true (by omega)]
      clear h
      go_enter Try.func7, Try.ntmps7
      go_wp2
      go_ret
      exact ⟨by simp, rfl⟩
    · rw [show decide (a < c ∨ (a = c ∧ b < d)) = false from decide_eq_false (by omega)]
      clear h
      go_enter Try.func7, Try.ntmps7
      go_wp2
      go_ret
      exact ⟨by simp, rfl⟩

theorem rise_any (b : Bool) (n : Int) (w : World) (hn : n = if b = true then 2 else 3) : Calls Try.prog 8 #[.bool b] w fun e w' => e = .returned (.int .i64 n) ∧ w' = w := by
  subst hn
  cases b
  all_goals
    go_enter Try.func8, Try.ntmps8
    go_wp2
    go_ret
    exact ⟨rfl, rfl⟩
theorem fall_any (b : Bool) (n : Int) (w : World) (hn : n = if b = true then 1 else 0) : Calls Try.prog 9 #[.bool b] w fun e w' => e = .returned (.int .i64 n) ∧ w' = w := by
  subst hn
  cases b
  all_goals
    go_enter Try.func9, Try.ntmps9
    go_wp2
    go_ret
    exact ⟨rfl, rfl⟩
theorem cell_of_block {w : World} {b : Nat} {cs : Array Value} {e : TypeId} {fz : Nat × Nat} (h : w.heap[b]? = some (.cells cs e fz)) {i : Nat} {v : Value} (hi : cs[i]? = some v) : w.cell? ⟨b, i, none⟩ = some v := by
  simp [World.cell?, h, hi]
theorem frozen_of_block {w : World} {b : Nat} {cs : Array Value} {e : TypeId} (h : w.heap[b]? = some (.cells cs e (0, 0))) (i : Nat) : w.frozen? ⟨b, i, none⟩ = false := by
  simp [World.frozen?, h]
theorem setCell_block {w : World} {b : Nat} {cs : Array Value} {e : TypeId} (h : w.heap[b]? = some (.cells cs e (0, 0))) (i : Nat) (v : Value) : (w.setCell ⟨b, i, none⟩ v).heap[b]? = some (.cells (cs.setIfInBounds i v) e (0, 0)) := by
  simp [World.setCell, Array.getElem?_modify, h]
theorem lt_of_heap {w : World} {k : Nat} {o : Obj} (h : w.heap[k]? = some o) : k < w.heap.size := by
  rcases Nat.lt_or_ge k w.heap.size with h' | h'
  · exact h'
  · rw [Array.getElem?_eq_none h'] at h; cases h
theorem heap_new (w : World) (o : Obj) (k : Nat) (hk : k = w.heap.size) : (w.alloc o).heap[k]? = some o := by subst hk; exact (MapKept.heap_alloc w _).1
theorem heap_old {w : World} {k : Nat} {x : Obj} (h : w.heap[k]? = some x) (o : Obj) : (w.alloc o).heap[k]? = some x := (Below.heap_alloc w o k (lt_of_heap h)).trans h

/-- The order that is kept lies at block B. -/
def OrdAt (w : World) (B : Nat) (h : Bool) (mi ms : Int) : Prop := w.heap[B]? = some (.cells #[.bool h, .int .i64 mi, .int .i64 ms] 23)
theorem OrdAt.kept {w : World} {B : Nat} {h : Bool} {mi ms : Int} (x : OrdAt w B h mi ms) (o : Obj) : OrdAt (w.alloc o) B h mi ms := heap_old x o
theorem OrdAt.put {w : World} {B : Nat} {h : Bool} {mi ms : Int} (x : OrdAt w B h mi ms) (i s : Int) : OrdAt (((w.setCell ⟨B, 0, none⟩ (.bool true)).setCell ⟨B, 1, none⟩ (.int .i64 i)).setCell ⟨B, 2, none⟩ (.int .i64 s)) B true i s :=
  setCell_block (setCell_block (setCell_block x 0 _) 1 _) 2 _

theorem hid {p : Prop} (h : p) : Hid p := h
end Go.Proofs.Qxb6626515a
