/-
  Rows of strings and bools in memory; bkMax, bkEqStrings, bkEqBools.
-/
import Derived.Test.Qxb6626453aRows
import Derived.WalkKit
import Derived.ProofKit
import Derived.OpenShut
import Derived.Handy
import Derived.BigQuiet
import Derived.WalkLawsBesides
namespace Go.Proofs.Qxb6626453a
open Go.ChangeShapes Go.WideShapes Go.ChangeAt Go.RowKit

/-- The slice value v has n elements; the i-th is f i. -/
def Row (w : World) (v : Value) (n : Nat) (f : Nat → Value) : Prop :=
  ∃ a cap, v = .slice a n cap ∧ (0 < n → ∃ b off, a = some ⟨b, off, none⟩ ∧ ∀ i, i < n → w.cell? ⟨b, off + i, none⟩ = some (f i))

/-- The same, and the elements lie in a block from lo on and below hi. -/
def RowIn (w : World) (lo hi : Nat) (v : Value) (n : Nat) (f : Nat → Value) : Prop :=
  ∃ a cap, v = .slice a n cap ∧ (0 < n → ∃ b off, a = some ⟨b, off, none⟩ ∧ lo ≤ b ∧ b < hi ∧ ∀ i, i < n → w.cell? ⟨b, off + i, none⟩ = some (f i))

theorem RowIn.row {w : World} {lo hi : Nat} {v : Value} {n : Nat} {f : Nat → Value} (h : RowIn w lo hi v n f) : Row w v n f := by
  obtain ⟨a, cap, hv, h⟩ := h
  refine ⟨a, cap, hv, fun hn => ?_⟩
  obtain ⟨b, off, ha, _, _, hc⟩ := h hn
  exact ⟨b, off, ha, hc⟩

/-- Blocks from lo on and below hi are as they were. -/
def Same (lo hi : Nat) (w w' : World) : Prop := ∀ k, lo ≤ k → k < hi → w'.heap[k]? = w.heap[k]?

theorem RowIn.same {w w' : World} {lo hi : Nat} {v : Value} {n : Nat} {f : Nat → Value} (h : RowIn w lo hi v n f) (hs : Same lo hi w w') : RowIn w' lo hi v n f := by
  obtain ⟨a, cap, hv, h⟩ := h
  refine ⟨a, cap, hv, fun hn => ?_⟩
  obtain ⟨b, off, ha, h1, h2, hc⟩ := h hn
  exact ⟨b, off, ha, h1, h2, fun i hi' => (World.cell?_of_block (w := w) (hs b h1 h2)).trans (hc i hi')⟩

theorem RowIn.wider {w : World} {lo hi lo' hi' : Nat} {v : Value} {n : Nat} {f : Nat → Value} (h : RowIn w lo hi v n f) (h1 : lo' ≤ lo) (h2 : hi ≤ hi') : RowIn w lo' hi' v n f := by
  obtain ⟨a, cap, hv, h⟩ := h
  refine ⟨a, cap, hv, fun hn => ?_⟩
  obtain ⟨b, off, ha, h3, h4, hc⟩ := h hn
  exact ⟨b, off, ha, by omega, by omega, hc⟩

theorem Same.of_below {B lo hi : Nat} {w w' : World} (h : Below B w w') (hB : hi ≤ B) : Same lo hi w w' := fun k _ h2 => h.block k (by omega)
theorem Same.trans {lo hi : Nat} {a b c : World} (h : Same lo hi a b) (k : Same lo hi b c) : Same lo hi a c := fun i h1 h2 => (k i h1 h2).trans (h i h1 h2)

theorem max_any (a b : Int) (w : World) :
    Calls Try.prog 10 #[.int .u64 a, .int .u64 b] w fun e w' => e = .returned (.int .u64 (max a b)) ∧ w' = w := by
  by_cases h : b < a
  · have hm : max a b = a := by omega
    rw [hm]
    go_enter Try.func10, Try.ntmps10
    go_wp2
    go_ret
    exact ⟨rfl, rfl⟩
  · have hm : max a b = b := by omega
    rw [hm]
    go_enter Try.func10, Try.ntmps10
    go_wp2
    go_ret
    exact ⟨rfl, rfl⟩

theorem eqStrings_true (va vb : Value) (n : Nat) (S : Nat → ByteArray) (w : World) (hn : n ≤ 1048576)
    (ha : Row w va n (fun i => .string (S i))) (hb : Row w vb n (fun i => .string (S i))) :
    Calls Try.prog 29 #[va, vb] w fun e w' => e = .returned (.bool true) ∧ ∃ k, w' = w.drewN k := by
  obtain ⟨a, ca, rfl, ha⟩ := ha
  obtain ⟨b, cb, rfl, hb⟩ := hb
  go_enter Try.func29, Try.ntmps29
  go_wp2
  go_loopw [5] (fun i wr => ∃ k : Nat, k ≤ n ∧ i = .int .i64 k ∧ ∃ m, wr = w.drewN m) (fun i _ => n - (intOf i).toNat)
  case atStart => exact ⟨0, Nat.zero_le _, rfl, 0, rfl⟩
  case round =>
    obtain ⟨k, hk, rfl, m, rfl⟩ := hrel
    by_cases hlt : k < n
    · obtain ⟨b1, o1, rfl, ha1⟩ := ha (by omega)
      obtain ⟨b2, o2, rfl, hb1⟩ := hb (by omega)
      have g1 := ha1 k hlt
      have g2 := hb1 k hlt
      clear ha hb ha1 hb1
      have hb0 : (k : Int) < (n : Int) := by omega
      go_wp2
      go_quiet (fail)
      go_wp2
      exact ⟨⟨k + 1, by omega, by go_num, _, rfl⟩, by simp [intOf]; omega⟩
    · go_wp2
      go_ret
      exact ⟨rfl, m, rfl⟩

theorem eqBools_true (va vb : Value) (n : Nat) (S : Nat → Bool) (w : World) (hn : n ≤ 1048576)
    (ha : Row w va n (fun i => .bool (S i))) (hb : Row w vb n (fun i => .bool (S i))) :
    Calls Try.prog 30 #[va, vb] w fun e w' => e = .returned (.bool true) ∧ ∃ k, w' = w.drewN k := by
  obtain ⟨a, ca, rfl, ha⟩ := ha
  obtain ⟨b, cb, rfl, hb⟩ := hb
  go_enter Try.func30, Try.ntmps30
  go_wp2
  go_loopw [5] (fun i wr => ∃ k : Nat, k ≤ n ∧ i = .int .i64 k ∧ ∃ m, wr = w.drewN m) (fun i _ => n - (intOf i).toNat)
  case atStart => exact ⟨0, Nat.zero_le _, rfl, 0, rfl⟩
  case round =>
    obtain ⟨k, hk, rfl, m, rfl⟩ := hrel
    by_cases hlt : k < n
    · obtain ⟨b1, o1, rfl, ha1⟩ := ha (by omega)
      obtain ⟨b2, o2, rfl, hb1⟩ := hb (by omega)
      have g1 := ha1 k hlt
      have g2 := hb1 k hlt
      clear ha hb ha1 hb1
      have hb0 : (k : Int) < (n : Int) := by omega
      go_wp2
      go_quiet (fail)
      go_wp2
      exact ⟨⟨k + 1, by omega, by go_num, _, rfl⟩, by simp [intOf]; omega⟩
    · go_wp2
      go_ret
      exact ⟨rfl, m, rfl⟩
end Go.Proofs.Qxb6626453a
