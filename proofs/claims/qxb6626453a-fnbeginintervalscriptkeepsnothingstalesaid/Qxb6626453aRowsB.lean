/-
  bkCloneStrings, bkCloneBools: a fresh copy.
-/
import Derived.Test.Qxb6626453aRowsA
import Derived.WalkSpells
namespace Go.Proofs.Qxb6626453a
open Go.ChangeShapes Go.WideShapes Go.ChangeAt Go.RowKit

theorem cell_of_block {w : World} {b : Nat} {cs : Array Value} {e : TypeId} {fz : Nat × Nat} (h : w.heap[b]? = some (.cells cs e fz)) {i : Nat} {v : Value} (hi : cs[i]? = some v) : w.cell? ⟨b, i, none⟩ = some v := by
  simp [World.cell?, h, hi]
theorem frozen_of_block {w : World} {b : Nat} {cs : Array Value} {e : TypeId} (h : w.heap[b]? = some (.cells cs e (0, 0))) (i : Nat) : w.frozen? ⟨b, i, none⟩ = false := by
  simp [World.frozen?, h]
theorem setCell_block {w : World} {b : Nat} {cs : Array Value} {e : TypeId} (h : w.heap[b]? = some (.cells cs e (0, 0))) (i : Nat) (v : Value) : (w.setCell ⟨b, i, none⟩ v).heap[b]? = some (.cells (cs.setIfInBounds i v) e (0, 0)) := by
  simp [World.setCell, Array.getElem?_modify, h]

theorem info_of {P : Program} {t : TypeId} {z : Value} {s b : Nat} (h : (P.info? t).map (fun i => (i.zero, i.size, i.bytes)) = some (some z, s, b)) : ∃ i, P.info? t = some i ∧ i.size = s ∧ i.bytes = b ∧ i.zero = some z := by
  cases hi : P.info? t with
  | none => rw [hi] at h; cases h
  | some i =>
    rw [hi] at h
    simp at h
    exact ⟨i, rfl, h.2.1, h.2.2, h.1⟩
theorem info9 : (Try.prog.info? 9).map (fun i => (i.zero, i.size, i.bytes)) = some (some (.string ByteArray.empty), 1, 16) := by kernel_rfl
theorem info4 : (Try.prog.info? 4).map (fun i => (i.zero, i.size, i.bytes)) = some (some (.bool false), 1, 1) := by kernel_rfl

/-- What the copying loop has come to after k rounds: block B holds n cells, of which the first k are those of f. -/
def Copied (w wr : World) (e : TypeId) (n k : Nat) (f : Nat → Value) : Prop :=
  Below w.heap.size w wr ∧ w.heap.size < wr.heap.size ∧ ∃ cs : Array Value, wr.heap[w.heap.size]? = some (.cells cs e (0, 0)) ∧ cs.size = n ∧ ∀ i, i < k → cs[i]? = some (f i)

theorem Copied.start (w : World) (e : TypeId) (z : Array Value) (n : Nat) (f : Nat → Value) : Copied w (w.alloc (.cells (madeCells z n) e)) e n 0 f :=
  ⟨(Below.refl _ _).alloc (Nat.le_refl _) _, by simp, _, (MapKept.heap_alloc w _).1, size_madeCells _ _, fun i hi => by omega⟩

theorem Copied.step {w wr : World} {e : TypeId} {n k : Nat} {f : Nat → Value} (h : Copied w wr e n k f) (hk : k < n) : Copied w (wr.setCell ⟨w.heap.size, k, none⟩ (f k)) e n (k + 1) f := by
  obtain ⟨h1, h2, cs, h3, h4, h5⟩ := h
  refine ⟨h1.setCell (Nat.le_refl _) _, by simpa using h2, _, setCell_block h3 k _, by simpa using h4, fun i hi => ?_⟩
  by_cases hik : i = k
  · subst hik; simp [h4, hk]
  · rw [Array.getElem?_setIfInBounds_ne (by omega)]; exact h5 i (by omega)

theorem Copied.out {w wr : World} {e : TypeId} {n : Nat} {f : Nat → Value} (h : Copied w wr e n n f) (c : Nat) : RowIn wr w.heap.size wr.heap.size (.slice (some ⟨w.heap.size, 0, none⟩) n c) n f := by
  obtain ⟨h1, h2, cs, h3, h4, h5⟩ := h
  exact ⟨_, _, rfl, fun _ => ⟨_, 0, rfl, Nat.le_refl _, h2, fun i hi => cell_of_block h3 (by rw [Nat.zero_add]; exact h5 i hi)⟩⟩

theorem Copied.there {w wr : World} {e : TypeId} {n k : Nat} {f : Nat → Value} (h : Copied w wr e n k f) (i : Nat) (hi : i < n) : (∃ v, wr.cell? ⟨w.heap.size, i, none⟩ = some v) ∧ wr.frozen? ⟨w.heap.size, i, none⟩ = false := by
  obtain ⟨h1, h2, cs, h3, h4, h5⟩ := h
  exact ⟨⟨cs[i]'(by omega), cell_of_block h3 (by simp [h4, hi])⟩, frozen_of_block h3 i⟩

theorem cloneStrings (v : Value) (n : Nat) (S : Nat → ByteArray) (w : World) (hn : n ≤ 1048576)
    (ha : Row w v n (fun i => .string (S i))) :
    Calls Try.prog 8 #[v] w fun e w' => ∃ v', e = .returned v' ∧ RowIn w' w.heap.size w'.heap.size v' n (fun i => .string (S i)) ∧ Below w.heap.size w w' := by
  obtain ⟨a, ca, rfl, ha⟩ := ha
  obtain ⟨i9, hi, hi1, hi2, hz⟩ := info_of info9
  have hnil := fun (W : World) (a : Option Addr) (n c n' c' : Nat) => Lib.run_eql_slice_nil (P := Try.prog) W 23 9 a n c n' c' Try.underlying23
  cases a with
  | none =>
    have hn0 : n = 0 := by
      rcases Nat.eq_zero_or_pos n with h | h
      · exact h
      · obtain ⟨b, off, h1, _⟩ := ha h
        cases h1
    subst hn0
    go_enter Try.func8, Try.ntmps8
    go_wp2
    go_ret
    exact ⟨_, rfl, ⟨none, 0, rfl, fun h => by omega⟩, Below.refl _ _⟩
  | some a =>
    have hmk := fun (W : World) => run_make (P := Try.prog) W 23 9 i9 (.string ByteArray.empty) Try.underlying23 hi hz .i64 .i64 (n : Int) (n : Int) (by omega) (by omega) (by rw [hi2]; omega) (by omega)
    simp only [hi1, Int.toNat_natCast, Nat.mul_one] at hmk
    go_enter Try.func8, Try.ntmps8
    go_wp2
    go_loopw [4] (fun i wr => ∃ k : Nat, k ≤ n ∧ i = .int .i64 k ∧ Copied w wr 9 n k (fun i => .string (S i))) (fun i _ => n - (intOf i).toNat)
    case atStart => exact ⟨0, Nat.zero_le _, rfl, Copied.start _ _ _ _ _⟩
    case round =>
      obtain ⟨k, hk, rfl, hc⟩ := hrel
      by_cases hlt : k < n
      · obtain ⟨b1, o1, hA, ha1⟩ := ha (by omega)
        cases hA
        have hbel := hc.1
        have hlt1 : b1 < w.heap.size := by
          have g0 := ha1 0 (by omega)
          exact block_lt_of_cell g0
        have g1 : wr.cell? ⟨b1, o1 + k, none⟩ = some (.string (S k)) := (hbel.cell (p := ⟨b1, o1 + k, none⟩) hlt1).trans (ha1 k hlt)
        obtain ⟨⟨v0, g2⟩, g3⟩ := hc.there k hlt
        have hs := hc.step hlt
        have HS : Hid (Copied w (wr.setCell ⟨w.heap.size, k, none⟩ (.string (S k))) 9 n (k + 1) (fun i => .string (S i))) := hs
        clear ha ha1 hbel hc hs hmk hnil
        go_wp2
        go_roundw
        case rel => exact ⟨k + 1, by omega, by go_num, HS.out⟩
        case measure => simp [intOf]; omega
      · have hkn : k = n := by omega
        subst hkn
        have HS : Hid (Copied w wr 9 k k (fun i => .string (S i))) := hc
        clear hc
        go_wp2
        go_ret
        exact ⟨_, rfl, HS.out.out _, HS.out.1⟩

theorem cloneBools (v : Value) (n : Nat) (S : Nat → Bool) (w : World) (hn : n ≤ 1048576)
    (ha : Row w v n (fun i => .bool (S i))) :
    Calls Try.prog 9 #[v] w fun e w' => ∃ v', e = .returned v' ∧ RowIn w' w.heap.size w'.heap.size v' n (fun i => .bool (S i)) ∧ Below w.heap.size w w' := by
  obtain ⟨a, ca, rfl, ha⟩ := ha
  obtain ⟨i4, hi, hi1, hi2, hz⟩ := info_of info4
  have hnil := fun (W : World) (a : Option Addr) (n c n' c' : Nat) => Lib.run_eql_slice_nil (P := Try.prog) W 24 4 a n c n' c' Try.underlying24
  cases a with
  | none =>
    have hn0 : n = 0 := by
      rcases Nat.eq_zero_or_pos n with h | h
      · exact h
      · obtain ⟨b, off, h1, _⟩ := ha h
        cases h1
    subst hn0
    go_enter Try.func9, Try.ntmps9
    go_wp2
    go_ret
    exact ⟨_, rfl, ⟨none, 0, rfl, fun h => by omega⟩, Below.refl _ _⟩
  | some a =>
    have hmk := fun (W : World) => run_make (P := Try.prog) W 24 4 i4 (.bool false) Try.underlying24 hi hz .i64 .i64 (n : Int) (n : Int) (by omega) (by omega) (by rw [hi2]; omega) (by omega)
    simp only [hi1, Int.toNat_natCast, Nat.mul_one] at hmk
    go_enter Try.func9, Try.ntmps9
    go_wp2
    go_loopw [4] (fun i wr => ∃ k : Nat, k ≤ n ∧ i = .int .i64 k ∧ Copied w wr 4 n k (fun i => .bool (S i))) (fun i _ => n - (intOf i).toNat)
    case atStart => exact ⟨0, Nat.zero_le _, rfl, Copied.start _ _ _ _ _⟩
    case round =>
      obtain ⟨k, hk, rfl, hc⟩ := hrel
      by_cases hlt : k < n
      · obtain ⟨b1, o1, hA, ha1⟩ := ha (by omega)
        cases hA
        have hbel := hc.1
        have hlt1 : b1 < w.heap.size := by
          have g0 := ha1 0 (by omega)
          exact block_lt_of_cell g0
        have g1 : wr.cell? ⟨b1, o1 + k, none⟩ = some (.bool (S k)) := (hbel.cell (p := ⟨b1, o1 + k, none⟩) hlt1).trans (ha1 k hlt)
        obtain ⟨⟨v0, g2⟩, g3⟩ := hc.there k hlt
        have hs := hc.step hlt
        have HS : Hid (Copied w (wr.setCell ⟨w.heap.size, k, none⟩ (.bool (S k))) 4 n (k + 1) (fun i => .bool (S i))) := hs
        clear ha ha1 hbel hc hs hmk hnil
        go_wp2
        go_roundw
        case rel => exact ⟨k + 1, by omega, by go_num, HS.out⟩
        case measure => simp [intOf]; omega
      · have hkn : k = n := by omega
        subst hkn
        have HS : Hid (Copied w wr 4 k k (fun i => .bool (S i))) := hc
        clear hc
        go_wp2
        go_ret
        exact ⟨_, rfl, HS.out.out _, HS.out.1⟩
end Go.Proofs.Qxb6626453a
