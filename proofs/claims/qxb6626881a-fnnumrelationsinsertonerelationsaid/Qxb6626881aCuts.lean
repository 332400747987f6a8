/-
  Cutting rows, and the fresh copy of a row.
-/
import Derived.Test.Qxb6626881aSizes
import Derived.Laws.CopyOwn
namespace Go.Proofs.Qxb6626881a
open Go.ChangeShapes Go.WideShapes Go.ChangeAt Go.RowKit Go.Maps

theorem run_size9 (W : World) : (sizeOf (Try.prog.elem 22)).run Try.prog W = .ok 1 W := by go_simp
theorem run_size22 (W : World) : (sizeOf (Try.prog.elem 23)).run Try.prog W = .ok 1 W := by go_simp

theorem Row.take {W : World} {a : Option Addr} {n c k : Nat} {f : Nat → Value} (h : Row W (.slice a n c) n f) (hk : k ≤ n) : Row W (sliced a 0 k c 1) k f := by
  obtain ⟨a', c', hv, h⟩ := h
  cases hv
  refine ⟨_, _, rfl, fun h0 => ?_⟩
  obtain ⟨b, off, rfl, hc⟩ := h (by omega)
  refine ⟨b, off, ?_, fun i hi => hc i (by omega)⟩
  split
  · rfl
  · simp [Addr.add]

theorem Row.drop {W : World} {a : Option Addr} {n c k : Nat} {f : Nat → Value} (h : Row W (.slice a n c) n f) (hc : n ≤ c) : Row W (sliced a k n c 1) (n - k) (fun j => f (k + j)) := by
  obtain ⟨a', c', hv, h⟩ := h
  cases hv
  refine ⟨_, _, rfl, fun h0 => ?_⟩
  obtain ⟨b, off, rfl, hc⟩ := h (by omega)
  refine ⟨b, off + k, ?_, fun i hi => ?_⟩
  · rw [if_neg (by omega)]; simp [Addr.add]
  · rw [Nat.add_assoc]; exact hc _ (by omega)

theorem Row.first {W : World} {a : Option Addr} {n c k : Nat} {f : Nat → Value} (h : Row W (.slice a n c) n f) (hk : k ≤ n) : Row W (.slice a k c) k f := by
  obtain ⟨a', c', hv, h⟩ := h
  cases hv
  refine ⟨_, _, rfl, fun h0 => ?_⟩
  obtain ⟨b, off, rfl, hc⟩ := h (by omega)
  exact ⟨b, off, rfl, fun i hi => hc i (by omega)⟩

theorem Row.last {W : World} {a : Option Addr} {n c k : Nat} {f : Nat → Value} (h : Row W (.slice a n c) n f) (hc : n ≤ c) : Row W (.slice (if c = k then a else Option.map (fun x => x.add k) a) (n - k) (c - k)) (n - k) (fun j => f (k + j)) := by
  have := h.drop (k := k) hc
  rwa [sliced, Nat.mul_one] at this

def Rel.drop (ρ : Rel) (t : Nat) : Rel := ⟨fun i => ρ.ra (t + i), fun i => ρ.q (t + i), fun i => ρ.rc (t + i), fun i => ρ.Rn (t + i)⟩

theorem RelRow.take {W : World} {a : Option Addr} {m c t : Nat} {ρ : Rel} (h : RelRow W (.slice a m c) m ρ) (ht : t ≤ m) : RelRow W (sliced a 0 t c 1) t ρ := ⟨h.top.take ht, fun i hi => h.each i (by omega)⟩
theorem RelRow.first {W : World} {a : Option Addr} {m c t : Nat} {ρ : Rel} (h : RelRow W (.slice a m c) m ρ) (ht : t ≤ m) : RelRow W (.slice a t c) t ρ := ⟨h.top.first ht, fun i hi => h.each i (by omega)⟩
theorem RelRow.drop {W : World} {a : Option Addr} {m c : Nat} {ρ : Rel} (h : RelRow W (.slice a m c) m ρ) (hc : m ≤ c) (t : Nat) : RelRow W (sliced a t m c 1) (m - t) (ρ.drop t) := ⟨h.top.drop hc, fun i hi => h.each (t + i) (by omega)⟩

theorem RelRow.last {W : World} {a : Option Addr} {m c : Nat} {ρ : Rel} (h : RelRow W (.slice a m c) m ρ) (hc : m ≤ c) (t : Nat) : RelRow W (.slice (if c = t then a else Option.map (fun x => x.add t) a) (m - t) (c - t)) (m - t) (ρ.drop t) := ⟨h.top.last hc, fun i hi => h.each (t + i) (by omega)⟩
theorem RelRow.none (W : World) (a : Option Addr) (c : Nat) (ρ : Rel) : RelRow W (.slice a 0 c) 0 ρ := ⟨⟨_, _, rfl, fun h => absurd h (by omega)⟩, fun i hi => absurd hi (by omega)⟩

/-- A prefix and a rest of a row, as the walk meets them. -/
theorem cut_lo {t : TypeId} (ht : Try.prog.underlying t = some (.slice (Try.prog.elem t))) (hs : ∀ W, (sizeOf (Try.prog.elem t)).run Try.prog W = .ok 1 W) (a : Option Addr) (n c k : Nat) (hk : k ≤ n) (hc : n ≤ c) (W : World) :
    (Instr.slice t (.slice a n c) none (some (.int .i64 (k : Int))) none).run Try.prog W = .ok (sliced a 0 k c 1) W := by
  rw [run_slice_h (ht := ht) (h0 := by omega) (h2 := by omega), hs]; rfl
theorem cut_hi {t : TypeId} (ht : Try.prog.underlying t = some (.slice (Try.prog.elem t))) (hs : ∀ W, (sizeOf (Try.prog.elem t)).run Try.prog W = .ok 1 W) (a : Option Addr) (n c k : Nat) (hk : k ≤ n) (W : World) :
    (Instr.slice t (.slice a n c) (some (.int .i64 (k : Int))) none none).run Try.prog W = .ok (sliced a k n c 1) W := by
  rw [run_slice_l (ht := ht) (h0 := by omega) (h1 := by omega), hs]; rfl
theorem elem22 : Try.prog.underlying 22 = some (.slice (Try.prog.elem 22)) := by kernel_rfl
theorem elem23 : Try.prog.underlying 23 = some (.slice (Try.prog.elem 23)) := by kernel_rfl

theorem info9 : (Try.prog.info? 9).map (·.size) = some 1 := by kernel_rfl
theorem info_of {P : Program} {t : TypeId} {z : Value} {s b : Nat} (h : (P.info? t).map (fun i => (i.zero, i.size, i.bytes)) = some (some z, s, b)) : ∃ i, P.info? t = some i ∧ i.size = s ∧ i.bytes = b ∧ i.zero = some z := by
  cases hi : P.info? t with
  | none => rw [hi] at h; cases h
  | some i =>
    rw [hi] at h
    simp at h
    exact ⟨i, rfl, h.2.1, h.2.2, h.1⟩
theorem infos9 : (Try.prog.info? 9).map (fun i => (i.zero, i.size, i.bytes)) = some (some (.string ByteArray.empty), 1, 16) := by kernel_rfl
theorem infos22 : (Try.prog.info? 22).map (fun i => (i.zero, i.size, i.bytes)) = some (some (.slice none 0 0), 1, 24) := by kernel_rfl
theorem make22 (n : Nat) (hn : n ≤ 10000) (W : World) : (Instr.makeSlice 22 (.int .i64 (n : Int)) (.int .i64 (n : Int))).run Try.prog W = .ok (.slice (some ⟨W.heap.size, 0, none⟩) n n) (W.alloc (.cells (madeCells #[.string ByteArray.empty] n) 9)) := by
  obtain ⟨i9, hi, hi1, hi2, hz⟩ := info_of infos9
  have h := run_make (P := Try.prog) W 22 9 i9 (.string ByteArray.empty) Try.underlying22 hi hz .i64 .i64 (n : Int) (n : Int) (by omega) (by omega) (by rw [hi2]; omega) (by omega)
  simp only [hi1, Int.toNat_natCast, Nat.mul_one] at h
  exact h
theorem make23 (n : Nat) (hn : n ≤ 10000) (W : World) : (Instr.makeSlice 23 (.int .i64 (n : Int)) (.int .i64 (n : Int))).run Try.prog W = .ok (.slice (some ⟨W.heap.size, 0, none⟩) n n) (W.alloc (.cells (madeCells #[.slice none 0 0] n) 22)) := by
  obtain ⟨i9, hi, hi1, hi2, hz⟩ := info_of infos22
  have h := run_make (P := Try.prog) W 23 22 i9 (.slice none 0 0) Try.underlying23 hi hz .i64 .i64 (n : Int) (n : Int) (by omega) (by omega) (by rw [hi2]; omega) (by omega)
  simp only [hi1, Int.toNat_natCast, Nat.mul_one] at h
  exact h

/-- What a block looks like that make has laid. -/
def Made (w W : World) (e : TypeId) (n : Nat) : Prop := Below w.heap.size w W ∧ ∃ cs : Array Value, W.heap[w.heap.size]? = some (.cells cs e (0, 0)) ∧ cs.size = n
theorem Made.start (w : World) (e : TypeId) (z : Array Value) (n : Nat) : Made w (w.alloc (.cells (madeCells z n) e)) e n := ⟨below_new _ _, _, heap_new _ _ _ rfl, size_madeCells _ _⟩

theorem below_setRow {w W : World} {g : Nat} (h : Below w.heap.size w W) (hg : w.heap.size ≤ g) (cs : Array Value) : Below w.heap.size w (W.setRow g cs) :=
  h.trans ⟨rfl, rfl, rfl, by simp [World.setRow], fun k hk => setRow_other W g k cs (by omega)⟩

/-- 'copy' of a row of strings into what make has laid. -/
theorem copied {w W : World} {a : Addr} {n ca : Nat} {S : Nat → ByteArray} (ty : TypeId) (h : Row w (.slice (some a) n ca) n (fun i => .string (S i))) (hM : Made w W 9 n) :
    ∃ W', (Builtin.copy_ #[22, 22] ty #[.slice (some ⟨w.heap.size, 0, none⟩) n n, .slice (some a) n ca]).run Try.prog W = .ok (.int .i64 (n : Int)) W' ∧ Row W' (.slice (some ⟨w.heap.size, 0, none⟩) n n) n (fun i => .string (S i)) ∧ Below w.heap.size w W' := by
  obtain ⟨hb, cs, hcs, hsz⟩ := hM
  rcases Nat.eq_zero_or_pos n with h0 | h0
  · subst h0
    exact ⟨W, run_copy_none W 22 22 ty 9 _ _ 0 0 0 ca Try.underlying22 info9 (by simp), ⟨_, _, rfl, fun h => by omega⟩, hb⟩
  · obtain ⟨a', c', hv, hr⟩ := h
    cases hv
    obtain ⟨b, off, ha, hc⟩ := hr h0
    cases ha
    have hrun := run_copy_row (P := Try.prog) W 22 22 ty 9 w.heap.size 0 n n ⟨b, off, none⟩ n ca cs 9 ((List.range n).map fun i => .string (S i)) Try.underlying22 info9 hcs (by simp) (fun j v hv => by
      rw [List.getElem?_map] at hv
      obtain ⟨j', hj, rfl⟩ := Option.map_eq_some_iff.1 hv
      obtain ⟨hj1, hj2⟩ := List.getElem?_eq_some_iff.1 hj
      simp at hj1 hj2
      subst hj2
      have hadd : (⟨b, off, none⟩ : Addr).add j = ⟨b, off + j, none⟩ := by unfold Addr.add; split <;> simp_all
      rw [hadd]
      exact cell_on (hc j (by omega)) hb) (by simp [hsz]) (fun v hv => by
      simp at hv
      obtain ⟨x, _, rfl⟩ := hv
      rfl)
    refine ⟨_, by simpa [goInt] using hrun, ⟨_, _, rfl, fun _ => ⟨_, 0, rfl, fun i hi => ?_⟩⟩, below_setRow hb (Nat.le_refl _) _⟩
    refine cell_of_block (setRow_heap W _ _ _ 9 _ hcs) (i := 0 + i) ?_
    simp only [List.getElem?_toArray]
    rw [Nat.zero_add, List.getElem?_append_left (by simpa using hi), List.getElem?_map, List.getElem?_range hi]
    rfl
end Go.Proofs.Qxb6626881a
