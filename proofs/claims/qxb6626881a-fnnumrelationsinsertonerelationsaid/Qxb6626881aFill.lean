/-
  A row laid cell by cell; a row of rows with one row turned.
-/
import Derived.Test.Qxb6626881aCuts
namespace Go.Proofs.Qxb6626881a
open Go.ChangeShapes Go.WideShapes Go.ChangeAt Go.RowKit Go.Maps

theorem frozen_of_block {w : World} {b : Nat} {cs : Array Value} {e : TypeId} (h : w.heap[b]? = some (.cells cs e (0, 0))) (i : Nat) : w.frozen? ⟨b, i, none⟩ = false := by
  simp [World.frozen?, h]
theorem setCell_block {w : World} {b : Nat} {cs : Array Value} {e : TypeId} (h : w.heap[b]? = some (.cells cs e (0, 0))) (i : Nat) (v : Value) : (w.setCell ⟨b, i, none⟩ v).heap[b]? = some (.cells (cs.setIfInBounds i v) e (0, 0)) := by
  simp [World.setCell, Array.getElem?_modify, h]

/-- The block at w's end holds n cells, of which the first k are those of f; nothing else has turned. -/
def Filled (w wr : World) (e : TypeId) (n k : Nat) (f : Nat → Value) : Prop :=
  Below w.heap.size w wr ∧ w.heap.size < wr.heap.size ∧ ∃ cs : Array Value, wr.heap[w.heap.size]? = some (.cells cs e (0, 0)) ∧ cs.size = n ∧ ∀ i, i < k → cs[i]? = some (f i)

theorem Filled.start (w : World) (e : TypeId) (z : Array Value) (n : Nat) (f : Nat → Value) : Filled w (w.alloc (.cells (madeCells z n) e)) e n 0 f :=
  ⟨below_new _ _, by simp, _, heap_new _ _ _ rfl, size_madeCells _ _, fun i hi => by omega⟩

theorem Filled.step {w wr : World} {e : TypeId} {n k : Nat} {f : Nat → Value} (h : Filled w wr e n k f) (hk : k < n) (v : Value) (hv : v = f k) : Filled w (wr.setCell ⟨w.heap.size, k, none⟩ v) e n (k + 1) f := by
  subst hv
  obtain ⟨h1, h2, cs, h3, h4, h5⟩ := h
  refine ⟨h1.setCell (Nat.le_refl _) _, by simpa using h2, _, setCell_block h3 k _, by simpa using h4, fun i hi => ?_⟩
  by_cases hik : i = k
  · subst hik; simp [h4, hk]
  · rw [Array.getElem?_setIfInBounds_ne (by omega)]; exact h5 i (by omega)

/-- One cell turned behind the end. -/
theorem Filled.turn {w wr : World} {e : TypeId} {n : Nat} {f : Nat → Value} (h : Filled w wr e n n f) (k : Nat) (hk : k < n) (v : Value) : Filled w (wr.setCell ⟨w.heap.size, k, none⟩ v) e n n (fun i => if i = k then v else f i) := by
  obtain ⟨h1, h2, cs, h3, h4, h5⟩ := h
  refine ⟨h1.setCell (Nat.le_refl _) _, by simpa using h2, _, setCell_block h3 k _, by simpa using h4, fun i hi => ?_⟩
  by_cases hik : i = k
  · subst hik; simp [h4, hk]
  · rw [Array.getElem?_setIfInBounds_ne (by omega)]
    dsimp only
    rw [if_neg hik]
    exact h5 i (by omega)

theorem Filled.out {w wr : World} {e : TypeId} {n : Nat} {f : Nat → Value} (h : Filled w wr e n n f) (c : Nat) : Row wr (.slice (some ⟨w.heap.size, 0, none⟩) n c) n f := by
  obtain ⟨h1, h2, cs, h3, h4, h5⟩ := h
  exact ⟨_, _, rfl, fun _ => ⟨_, 0, rfl, fun i hi => cell_of_block h3 (by rw [Nat.zero_add]; exact h5 i hi)⟩⟩

theorem Filled.there {w wr : World} {e : TypeId} {n k : Nat} {f : Nat → Value} (h : Filled w wr e n k f) (i : Nat) (hi : i < n) : (∃ v, wr.cell? ⟨w.heap.size, i, none⟩ = some v) ∧ wr.frozen? ⟨w.heap.size, i, none⟩ = false := by
  obtain ⟨h1, h2, cs, h3, h4, h5⟩ := h
  exact ⟨⟨cs[i]'(by omega), cell_of_block h3 (by simp [h4, hi])⟩, frozen_of_block h3 i⟩

/-- ρ, its row x turned. -/
def Rel.turn (ρ : Rel) (x : Nat) (a : Option Addr) (q c : Nat) (R : Nat → ByteArray) : Rel :=
  ⟨fun i => if i = x then a else ρ.ra i, fun i => if i = x then q else ρ.q i, fun i => if i = x then c else ρ.rc i, fun i => if i = x then R else ρ.Rn i⟩

theorem Rel.turn_q (ρ : Rel) (x : Nat) (a : Option Addr) (q c : Nat) (R : Nat → ByteArray) (m B : Nat) (h : ∀ i, i < m → ρ.q i ≤ B) (hq : q ≤ B) : ∀ i, i < m → (ρ.turn x a q c R).q i ≤ B := fun i hi => by
  unfold Rel.turn
  dsimp only
  split
  · exact hq
  · exact h i hi
theorem Rel.turn_R (ρ : Rel) (x : Nat) (a : Option Addr) (q c : Nat) (R : Nat → ByteArray) (h : ∀ i j, (ρ.Rn i j).size ≤ maxLen) (hR : ∀ j, (R j).size ≤ maxLen) : ∀ i j, ((ρ.turn x a q c R).Rn i j).size ≤ maxLen := fun i j => by
  unfold Rel.turn
  dsimp only
  split
  · exact hR j
  · exact h i j
theorem ins_size (R : Nat → ByteArray) (p : Nat) (name : ByteArray) (h : ∀ j, (R j).size ≤ maxLen) (hn : name.size ≤ maxLen) : ∀ j, (ins R p name j).size ≤ maxLen := fun j => by
  unfold ins
  split
  · exact h j
  · split
    · exact hn
    · exact h _
theorem ins_lt (R : Nat → ByteArray) (p : Nat) (name : ByteArray) (j : Nat) (h : j < p) : ins R p name j = R j := by unfold ins; rw [if_pos h]
theorem ins_at (R : Nat → ByteArray) (p : Nat) (name : ByteArray) : ins R p name p = name := by unfold ins; rw [if_neg (by omega), if_pos rfl]
theorem ins_gt (R : Nat → ByteArray) (p : Nat) (name : ByteArray) (j : Nat) (h : p ≤ j) : ins R p name (j + 1) = R j := by unfold ins; rw [if_neg (by omega), if_neg (by omega)]; rfl

/-- The row of rows behind the three loops. -/
theorem turned {w wr W : World} {m x q c : Nat} {a : Option Addr} {ρ : Rel} {R : Nat → ByteArray} (hf : Filled w wr 22 m m (fun i => ρ.val i)) (hx : x < m) (hr : ∀ i, i < m → Row w (ρ.val i) (ρ.q i) (fun j => .string (ρ.Rn i j)))
    (hn : Row w (.slice a q c) q (fun j => .string (R j))) (hW : W = wr.setCell ⟨w.heap.size, x, none⟩ (.slice a q c)) (cap : Nat) :
    RelRow W (.slice (some ⟨w.heap.size, 0, none⟩) m cap) m (ρ.turn x a q c R) ∧ Below w.heap.size w W := by
  subst hW
  have h := hf.turn x hx (.slice a q c)
  refine ⟨⟨?_, fun i hi => ?_⟩, h.1⟩
  · have h1 := h.out cap
    have e : (fun i => if i = x then Value.slice a q c else ρ.val i) = fun i => (ρ.turn x a q c R).val i := by
      funext i
      unfold Rel.turn Rel.val
      dsimp only
      split <;> rfl
    rwa [e] at h1
  · by_cases hix : i = x
    · subst hix
      have := hn.later h.1
      unfold Rel.turn Rel.val
      dsimp only
      rw [if_pos rfl, if_pos rfl, if_pos rfl, if_pos rfl]
      exact this
    · have := (hr i hi).later h.1
      unfold Rel.turn Rel.val
      dsimp only
      simp only [if_neg hix]
      exact this

/-- The plain law: one name more in one row. -/
theorem turn_count (S : Nat → ByteArray) (n m x p : Nat) (ρ : Rel) (a : Option Addr) (c : Nat) (name : ByteArray) (hxn : x < n) (hxm : x < m) (hp : p ≤ ρ.q x) :
    tp S (dc m (ρ.turn x a (ρ.q x + 1) c (ins (ρ.Rn x) p name))) n (fun _ => true) = tp S (dc m ρ) n (fun _ => true) + if lastB S n x = true then (if among (ρ.Rn x) (ρ.q x) name = true then 0 else 1) else 0 := by
  have h1 : ∀ j, j ≠ x → dc m (ρ.turn x a (ρ.q x + 1) c (ins (ρ.Rn x) p name)) j = dc m ρ j := fun j hj => by
    unfold dc Rel.turn
    dsimp only
    rw [if_neg hj, if_neg hj]
  have h2 : dc m (ρ.turn x a (ρ.q x + 1) c (ins (ρ.Rn x) p name)) x = dc m ρ x + (if among (ρ.Rn x) (ρ.q x) name = true then 0 else 1) := by
    unfold dc Rel.turn
    dsimp only
    rw [if_pos hxm, if_pos hxm, if_pos rfl, if_pos rfl]
    exact ds_inserted _ _ _ _ hp
  rw [tp_eq_ms, tp_eq_ms, ms_turn S (dc m ρ) _ n x h1 _ h2 n]
  simp [hxn]
end Go.Proofs.Qxb6626881a
