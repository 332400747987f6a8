/-
  BeginInterval: what it does to a bookkeeper in memory.
-/
import Derived.Test.Qxb6626453aBuild
namespace Go.Proofs.Qxb6626453a
open Go.ChangeShapes Go.WideShapes Go.ChangeAt Go.RowKit

/-- Behind a beginning. -/
def BeginPost (X : St) (lo b : Nat) (kO kL : Bool) (bg : Int) (w : World) (e : Ending) (w' : World) : Prop :=
  e = .returned (.tuple #[]) ∧ Bk w' lo b X kO kL bg ∧ w.grownBy w' (some b)

theorem grown_set {w w' : World} {b : Nat} (h : w.grownBy w' (some b)) (i : Nat) (v : Value) : w.grownBy (w'.setCell ⟨b, i, none⟩ v) (some b) :=
  ⟨h.os, h.tape, h.output, by simpa using h.size, fun k hk hne => by rw [heap_setCell_other _ _ _ _ (fun e => hne (by rw [e]))]; exact h.block k hk hne⟩
theorem grown_self (w : World) (r : Option Nat) : w.grownBy w r := ⟨rfl, rfl, rfl, Nat.le_refl _, fun _ _ _ => rfl⟩

theorem lt_of_heap {w : World} {k : Nat} {o : Obj} (h : w.heap[k]? = some o) : k < w.heap.size := by
  rcases Nat.lt_or_ge k w.heap.size with h' | h'
  · exact h'
  · rw [Array.getElem?_eq_none h'] at h; cases h

abbrev bkCells (X : St) (po pl : Option Addr) (bg : Int) : Array Value := #[.string X.name, .int .u64 X.ml, .int .u64 X.mh, .int .u64 X.pl, .int .u64 X.ph, .pointer po, .pointer pl, .int .u64 bg]

theorem bk_set {w w' : World} {lo b o l : Nat} {va vk : Value} {X : St} {kO kL kO' kL' : Bool} {bg : Int} (hlo : lo ≤ b)
    (hO : kO = true → lo ≤ o ∧ o < b ∧ w.heap[o]? = some (.cells #[.int .u64 X.oe, .string X.fr, .string X.to] 39))
    (hL : kL = true → lo ≤ l ∧ l < b ∧ w.heap[l]? = some (.cells #[.int .u64 X.le, va, vk] 58) ∧ RowIn w lo b va X.na (fun i => .string (X.S i)) ∧ RowIn w lo b vk X.nk (fun i => .bool (X.K i)))
    (hg : w.grownBy w' (some b)) (hbl : b < w.heap.size) (i1 : kO' = true → kO = true) (i2 : kL' = true → kL = true)
    (hb : w'.heap[b]? = some (.cells (bkCells X (if kO' = true then some ⟨o, 0, none⟩ else none) (if kL' = true then some ⟨l, 0, none⟩ else none) bg) 56)) : Bk w' lo b X kO' kL' bg := by
  have hs : Same lo b w w' := fun k _ h2 => hg.block k (by omega) (fun e => by cases e; omega)
  refine ⟨o, l, va, vk, hlo, hb, fun h => ?_, fun h => ?_⟩
  · obtain ⟨g1, g2, g3⟩ := hO (i1 h)
    exact ⟨g1, g2, (hs o g1 g2).trans g3⟩
  · obtain ⟨g1, g2, g3, g4, g5⟩ := hL (i2 h)
    exact ⟨g1, g2, (hs l g1 g2).trans g3, g4.same hs, g5.same hs⟩

theorem begin_nn (X : St) (lo b : Nat) (bg ep : Int) (w : World) (h : Bk w lo b X false false bg) :
    Calls Try.prog 12 #[.pointer (some ⟨b, 0, none⟩), .int .u64 ep] w (BeginPost X lo b false false (max bg ep) w) := by
  obtain ⟨o, l, va, vk, hlo, hb, hO, hL⟩ := h
  replace hb : w.heap[b]? = some (.cells (bkCells X (none) (none) bg) 56) := hb
  have c5 : w.cell? ⟨b, 5, none⟩ = some (.pointer (none)) := cell_of_block hb (i := 5) rfl
  have c6 : w.cell? ⟨b, 6, none⟩ = some (.pointer (none)) := cell_of_block hb (i := 6) rfl
  have c7 : w.cell? ⟨b, 7, none⟩ = some (.int .u64 bg) := cell_of_block hb (i := 7) rfl
  have f5 := frozen_of_block hb 5
  have f6 := frozen_of_block hb 6
  have f7 := frozen_of_block hb 7
  have HF : Hid (∀ w', w.grownBy w' (some b) → w'.heap[b]? = some (.cells (bkCells X (none) (none) (max bg ep)) 56) → Bk w' lo b X false false (max bg ep)) := fun w' hg h => bk_set (kO := false) (kL := false) (o := o) (l := l) (va := va) (vk := vk) hlo hO hL hg (lt_of_heap hb) (by simp) (by simp) h
  have HB : Hid (w.heap[b]? = some (.cells (bkCells X (none) (none) bg) 56)) := hb
  clear hO hL hb
  go_enter Try.func12, Try.ntmps12
  go_wp2
  all_goals
    go_end0
    refine ⟨rfl, ?_, ?_⟩
    · refine HF.out _ (grown_set (grown_self _ _) _ _) ((setCell_block HB.out 7 _).trans ?_)
      have e : max bg ep = bg ∨ max bg ep = ep := by omega
      first
        | (rw [show max bg ep = ep from by omega]; rfl)
        | (rw [show max bg ep = bg from by omega]; rfl)
    · exact grown_set (grown_self _ _) _ _

theorem begin_nk (X : St) (lo b : Nat) (bg ep : Int) (w : World) (h1 : ¬ X.le < ep) (h : Bk w lo b X false true bg) :
    Calls Try.prog 12 #[.pointer (some ⟨b, 0, none⟩), .int .u64 ep] w (BeginPost X lo b false true (max bg ep) w) := by
  obtain ⟨o, l, va, vk, hlo, hb, hO, hL⟩ := h
  replace hb : w.heap[b]? = some (.cells (bkCells X (none) (some ⟨l, 0, none⟩) bg) 56) := hb
  have c5 : w.cell? ⟨b, 5, none⟩ = some (.pointer (none)) := cell_of_block hb (i := 5) rfl
  have c6 : w.cell? ⟨b, 6, none⟩ = some (.pointer (some ⟨l, 0, none⟩)) := cell_of_block hb (i := 6) rfl
  have c7 : w.cell? ⟨b, 7, none⟩ = some (.int .u64 bg) := cell_of_block hb (i := 7) rfl
  have f5 := frozen_of_block hb 5
  have f6 := frozen_of_block hb 6
  have f7 := frozen_of_block hb 7
  have g0 : w.cell? ⟨l, 0, none⟩ = some (.int .u64 X.le) := cell_of_block (hL rfl).2.2.1 (i := 0) rfl
  have gn : l < b := (hL rfl).2.1
  have HF : Hid (∀ w', w.grownBy w' (some b) → w'.heap[b]? = some (.cells (bkCells X (none) (some ⟨l, 0, none⟩) (max bg ep)) 56) → Bk w' lo b X false true (max bg ep)) := fun w' hg h => bk_set (kO := false) (kL := true) (o := o) (l := l) (va := va) (vk := vk) hlo hO hL hg (lt_of_heap hb) (by simp) (by simp) h
  have HB : Hid (w.heap[b]? = some (.cells (bkCells X (none) (some ⟨l, 0, none⟩) bg) 56)) := hb
  clear hO hL hb
  go_enter Try.func12, Try.ntmps12
  go_wp2
  all_goals
    go_end0
    refine ⟨rfl, ?_, ?_⟩
    · refine HF.out _ (grown_set (grown_self _ _) _ _) ((setCell_block HB.out 7 _).trans ?_)
      have e : max bg ep = bg ∨ max bg ep = ep := by omega
      first
        | (rw [show max bg ep = ep from by omega]; rfl)
        | (rw [show max bg ep = bg from by omega]; rfl)
    · exact grown_set (grown_self _ _) _ _

theorem begin_nd (X : St) (lo b : Nat) (bg ep : Int) (w : World) (h1 : X.le < ep) (h : Bk w lo b X false true bg) :
    Calls Try.prog 12 #[.pointer (some ⟨b, 0, none⟩), .int .u64 ep] w (BeginPost X lo b false false (max bg ep) w) := by
  obtain ⟨o, l, va, vk, hlo, hb, hO, hL⟩ := h
  replace hb : w.heap[b]? = some (.cells (bkCells X (none) (some ⟨l, 0, none⟩) bg) 56) := hb
  have c5 : w.cell? ⟨b, 5, none⟩ = some (.pointer (none)) := cell_of_block hb (i := 5) rfl
  have c6 : w.cell? ⟨b, 6, none⟩ = some (.pointer (some ⟨l, 0, none⟩)) := cell_of_block hb (i := 6) rfl
  have c7 : w.cell? ⟨b, 7, none⟩ = some (.int .u64 bg) := cell_of_block hb (i := 7) rfl
  have f5 := frozen_of_block hb 5
  have f6 := frozen_of_block hb 6
  have f7 := frozen_of_block hb 7
  have g0 : w.cell? ⟨l, 0, none⟩ = some (.int .u64 X.le) := cell_of_block (hL rfl).2.2.1 (i := 0) rfl
  have gn : l < b := (hL rfl).2.1
  have HF : Hid (∀ w', w.grownBy w' (some b) → w'.heap[b]? = some (.cells (bkCells X (none) (none) (max bg ep)) 56) → Bk w' lo b X false false (max bg ep)) := fun w' hg h => bk_set (kO := false) (kL := true) (o := o) (l := l) (va := va) (vk := vk) hlo hO hL hg (lt_of_heap hb) (by simp) (by simp) h
  have HB : Hid (w.heap[b]? = some (.cells (bkCells X (none) (some ⟨l, 0, none⟩) bg) 56)) := hb
  clear hO hL hb
  go_enter Try.func12, Try.ntmps12
  go_wp2
  all_goals
    go_end0
    refine ⟨rfl, ?_, ?_⟩
    · refine HF.out _ (grown_set (grown_set (grown_self _ _) _ _) _ _) ((setCell_block (setCell_block HB.out 7 _) 6 _).trans ?_)
      have e : max bg ep = bg ∨ max bg ep = ep := by omega
      first
        | (rw [show max bg ep = ep from by omega]; rfl)
        | (rw [show max bg ep = bg from by omega]; rfl)
    · exact grown_set (grown_set (grown_self _ _) _ _) _ _

theorem begin_kn (X : St) (lo b : Nat) (bg ep : Int) (w : World) (h2 : ¬ X.oe < ep) (h : Bk w lo b X true false bg) :
    Calls Try.prog 12 #[.pointer (some ⟨b, 0, none⟩), .int .u64 ep] w (BeginPost X lo b true false (max bg ep) w) := by
  obtain ⟨o, l, va, vk, hlo, hb, hO, hL⟩ := h
  replace hb : w.heap[b]? = some (.cells (bkCells X (some ⟨o, 0, none⟩) (none) bg) 56) := hb
  have c5 : w.cell? ⟨b, 5, none⟩ = some (.pointer (some ⟨o, 0, none⟩)) := cell_of_block hb (i := 5) rfl
  have c6 : w.cell? ⟨b, 6, none⟩ = some (.pointer (none)) := cell_of_block hb (i := 6) rfl
  have c7 : w.cell? ⟨b, 7, none⟩ = some (.int .u64 bg) := cell_of_block hb (i := 7) rfl
  have f5 := frozen_of_block hb 5
  have f6 := frozen_of_block hb 6
  have f7 := frozen_of_block hb 7
  have d0 : w.cell? ⟨o, 0, none⟩ = some (.int .u64 X.oe) := cell_of_block (hO rfl).2.2 (i := 0) rfl
  have dn : o < b := (hO rfl).2.1
  have HF : Hid (∀ w', w.grownBy w' (some b) → w'.heap[b]? = some (.cells (bkCells X (some ⟨o, 0, none⟩) (none) (max bg ep)) 56) → Bk w' lo b X true false (max bg ep)) := fun w' hg h => bk_set (kO := true) (kL := false) (o := o) (l := l) (va := va) (vk := vk) hlo hO hL hg (lt_of_heap hb) (by simp) (by simp) h
  have HB : Hid (w.heap[b]? = some (.cells (bkCells X (some ⟨o, 0, none⟩) (none) bg) 56)) := hb
  clear hO hL hb
  go_enter Try.func12, Try.ntmps12
  go_wp2
  all_goals
    go_end0
    refine ⟨rfl, ?_, ?_⟩
    · refine HF.out _ (grown_set (grown_self _ _) _ _) ((setCell_block HB.out 7 _).trans ?_)
      have e : max bg ep = bg ∨ max bg ep = ep := by omega
      first
        | (rw [show max bg ep = ep from by omega]; rfl)
        | (rw [show max bg ep = bg from by omega]; rfl)
    · exact grown_set (grown_self _ _) _ _

theorem begin_kk (X : St) (lo b : Nat) (bg ep : Int) (w : World) (h1 : ¬ X.le < ep) (h2 : ¬ X.oe < ep) (h : Bk w lo b X true true bg) :
    Calls Try.prog 12 #[.pointer (some ⟨b, 0, none⟩), .int .u64 ep] w (BeginPost X lo b true true (max bg ep) w) := by
  obtain ⟨o, l, va, vk, hlo, hb, hO, hL⟩ := h
  replace hb : w.heap[b]? = some (.cells (bkCells X (some ⟨o, 0, none⟩) (some ⟨l, 0, none⟩) bg) 56) := hb
  have c5 : w.cell? ⟨b, 5, none⟩ = some (.pointer (some ⟨o, 0, none⟩)) := cell_of_block hb (i := 5) rfl
  have c6 : w.cell? ⟨b, 6, none⟩ = some (.pointer (some ⟨l, 0, none⟩)) := cell_of_block hb (i := 6) rfl
  have c7 : w.cell? ⟨b, 7, none⟩ = some (.int .u64 bg) := cell_of_block hb (i := 7) rfl
  have f5 := frozen_of_block hb 5
  have f6 := frozen_of_block hb 6
  have f7 := frozen_of_block hb 7
  have d0 : w.cell? ⟨o, 0, none⟩ = some (.int .u64 X.oe) := cell_of_block (hO rfl).2.2 (i := 0) rfl
  have dn : o < b := (hO rfl).2.1
  have g0 : w.cell? ⟨l, 0, none⟩ = some (.int .u64 X.le) := cell_of_block (hL rfl).2.2.1 (i := 0) rfl
  have gn : l < b := (hL rfl).2.1
  have HF : Hid (∀ w', w.grownBy w' (some b) → w'.heap[b]? = some (.cells (bkCells X (some ⟨o, 0, none⟩) (some ⟨l, 0, none⟩) (max bg ep)) 56) → Bk w' lo b X true true (max bg ep)) := fun w' hg h => bk_set (kO := true) (kL := true) (o := o) (l := l) (va := va) (vk := vk) hlo hO hL hg (lt_of_heap hb) (by simp) (by simp) h
  have HB : Hid (w.heap[b]? = some (.cells (bkCells X (some ⟨o, 0, none⟩) (some ⟨l, 0, none⟩) bg) 56)) := hb
  clear hO hL hb
  go_enter Try.func12, Try.ntmps12
  go_wp2
  all_goals
    go_end0
    refine ⟨rfl, ?_, ?_⟩
    · refine HF.out _ (grown_set (grown_self _ _) _ _) ((setCell_block HB.out 7 _).trans ?_)
      have e : max bg ep = bg ∨ max bg ep = ep := by omega
      first
        | (rw [show max bg ep = ep from by omega]; rfl)
        | (rw [show max bg ep = bg from by omega]; rfl)
    · exact grown_set (grown_self _ _) _ _

theorem begin_kd (X : St) (lo b : Nat) (bg ep : Int) (w : World) (h1 : X.le < ep) (h2 : ¬ X.oe < ep) (h : Bk w lo b X true true bg) :
    Calls Try.prog 12 #[.pointer (some ⟨b, 0, none⟩), .int .u64 ep] w (BeginPost X lo b true false (max bg ep) w) := by
  obtain ⟨o, l, va, vk, hlo, hb, hO, hL⟩ := h
  replace hb : w.heap[b]? = some (.cells (bkCells X (some ⟨o, 0, none⟩) (some ⟨l, 0, none⟩) bg) 56) := hb
  have c5 : w.cell? ⟨b, 5, none⟩ = some (.pointer (some ⟨o, 0, none⟩)) := cell_of_block hb (i := 5) rfl
  have c6 : w.cell? ⟨b, 6, none⟩ = some (.pointer (some ⟨l, 0, none⟩)) := cell_of_block hb (i := 6) rfl
  have c7 : w.cell? ⟨b, 7, none⟩ = some (.int .u64 bg) := cell_of_block hb (i := 7) rfl
  have f5 := frozen_of_block hb 5
  have f6 := frozen_of_block hb 6
  have f7 := frozen_of_block hb 7
  have d0 : w.cell? ⟨o, 0, none⟩ = some (.int .u64 X.oe) := cell_of_block (hO rfl).2.2 (i := 0) rfl
  have dn : o < b := (hO rfl).2.1
  have g0 : w.cell? ⟨l, 0, none⟩ = some (.int .u64 X.le) := cell_of_block (hL rfl).2.2.1 (i := 0) rfl
  have gn : l < b := (hL rfl).2.1
  have HF : Hid (∀ w', w.grownBy w' (some b) → w'.heap[b]? = some (.cells (bkCells X (some ⟨o, 0, none⟩) (none) (max bg ep)) 56) → Bk w' lo b X true false (max bg ep)) := fun w' hg h => bk_set (kO := true) (kL := true) (o := o) (l := l) (va := va) (vk := vk) hlo hO hL hg (lt_of_heap hb) (by simp) (by simp) h
  have HB : Hid (w.heap[b]? = some (.cells (bkCells X (some ⟨o, 0, none⟩) (some ⟨l, 0, none⟩) bg) 56)) := hb
  clear hO hL hb
  go_enter Try.func12, Try.ntmps12
  go_wp2
  all_goals
    go_end0
    refine ⟨rfl, ?_, ?_⟩
    · refine HF.out _ (grown_set (grown_set (grown_self _ _) _ _) _ _) ((setCell_block (setCell_block HB.out 7 _) 6 _).trans ?_)
      have e : max bg ep = bg ∨ max bg ep = ep := by omega
      first
        | (rw [show max bg ep = ep from by omega]; rfl)
        | (rw [show max bg ep = bg from by omega]; rfl)
    · exact grown_set (grown_set (grown_self _ _) _ _) _ _

theorem begin_dn (X : St) (lo b : Nat) (bg ep : Int) (w : World) (h2 : X.oe < ep) (h : Bk w lo b X true false bg) :
    Calls Try.prog 12 #[.pointer (some ⟨b, 0, none⟩), .int .u64 ep] w (BeginPost X lo b false false (max bg ep) w) := by
  obtain ⟨o, l, va, vk, hlo, hb, hO, hL⟩ := h
  replace hb : w.heap[b]? = some (.cells (bkCells X (some ⟨o, 0, none⟩) (none) bg) 56) := hb
  have c5 : w.cell? ⟨b, 5, none⟩ = some (.pointer (some ⟨o, 0, none⟩)) := cell_of_block hb (i := 5) rfl
  have c6 : w.cell? ⟨b, 6, none⟩ = some (.pointer (none)) := cell_of_block hb (i := 6) rfl
  have c7 : w.cell? ⟨b, 7, none⟩ = some (.int .u64 bg) := cell_of_block hb (i := 7) rfl
  have f5 := frozen_of_block hb 5
  have f6 := frozen_of_block hb 6
  have f7 := frozen_of_block hb 7
  have d0 : w.cell? ⟨o, 0, none⟩ = some (.int .u64 X.oe) := cell_of_block (hO rfl).2.2 (i := 0) rfl
  have dn : o < b := (hO rfl).2.1
  have HF : Hid (∀ w', w.grownBy w' (some b) → w'.heap[b]? = some (.cells (bkCells X (none) (none) (max bg ep)) 56) → Bk w' lo b X false false (max bg ep)) := fun w' hg h => bk_set (kO := true) (kL := false) (o := o) (l := l) (va := va) (vk := vk) hlo hO hL hg (lt_of_heap hb) (by simp) (by simp) h
  have HB : Hid (w.heap[b]? = some (.cells (bkCells X (some ⟨o, 0, none⟩) (none) bg) 56)) := hb
  clear hO hL hb
  go_enter Try.func12, Try.ntmps12
  go_wp2
  all_goals
    go_end0
    refine ⟨rfl, ?_, ?_⟩
    · refine HF.out _ (grown_set (grown_set (grown_self _ _) _ _) _ _) ((setCell_block (setCell_block HB.out 7 _) 5 _).trans ?_)
      have e : max bg ep = bg ∨ max bg ep = ep := by omega
      first
        | (rw [show max bg ep = ep from by omega]; rfl)
        | (rw [show max bg ep = bg from by omega]; rfl)
    · exact grown_set (grown_set (grown_self _ _) _ _) _ _

theorem begin_dk (X : St) (lo b : Nat) (bg ep : Int) (w : World) (h1 : ¬ X.le < ep) (h2 : X.oe < ep) (h : Bk w lo b X true true bg) :
    Calls Try.prog 12 #[.pointer (some ⟨b, 0, none⟩), .int .u64 ep] w (BeginPost X lo b false true (max bg ep) w) := by
  obtain ⟨o, l, va, vk, hlo, hb, hO, hL⟩ := h
  replace hb : w.heap[b]? = some (.cells (bkCells X (some ⟨o, 0, none⟩) (some ⟨l, 0, none⟩) bg) 56) := hb
  have c5 : w.cell? ⟨b, 5, none⟩ = some (.pointer (some ⟨o, 0, none⟩)) := cell_of_block hb (i := 5) rfl
  have c6 : w.cell? ⟨b, 6, none⟩ = some (.pointer (some ⟨l, 0, none⟩)) := cell_of_block hb (i := 6) rfl
  have c7 : w.cell? ⟨b, 7, none⟩ = some (.int .u64 bg) := cell_of_block hb (i := 7) rfl
  have f5 := frozen_of_block hb 5
  have f6 := frozen_of_block hb 6
  have f7 := frozen_of_block hb 7
  have d0 : w.cell? ⟨o, 0, none⟩ = some (.int .u64 X.oe) := cell_of_block (hO rfl).2.2 (i := 0) rfl
  have dn : o < b := (hO rfl).2.1
  have g0 : w.cell? ⟨l, 0, none⟩ = some (.int .u64 X.le) := cell_of_block (hL rfl).2.2.1 (i := 0) rfl
  have gn : l < b := (hL rfl).2.1
  have HF : Hid (∀ w', w.grownBy w' (some b) → w'.heap[b]? = some (.cells (bkCells X (none) (some ⟨l, 0, none⟩) (max bg ep)) 56) → Bk w' lo b X false true (max bg ep)) := fun w' hg h => bk_set (kO := true) (kL := true) (o := o) (l := l) (va := va) (vk := vk) hlo hO hL hg (lt_of_heap hb) (by simp) (by simp) h
  have HB : Hid (w.heap[b]? = some (.cells (bkCells X (some ⟨o, 0, none⟩) (some ⟨l, 0, none⟩) bg) 56)) := hb
  clear hO hL hb
  go_enter Try.func12, Try.ntmps12
  go_wp2
  all_goals
    go_end0
    refine ⟨rfl, ?_, ?_⟩
    · refine HF.out _ (grown_set (grown_set (grown_self _ _) _ _) _ _) ((setCell_block (setCell_block HB.out 7 _) 5 _).trans ?_)
      have e : max bg ep = bg ∨ max bg ep = ep := by omega
      first
        | (rw [show max bg ep = ep from by omega]; rfl)
        | (rw [show max bg ep = bg from by omega]; rfl)
    · exact grown_set (grown_set (grown_self _ _) _ _) _ _

theorem begin_dd (X : St) (lo b : Nat) (bg ep : Int) (w : World) (h1 : X.le < ep) (h2 : X.oe < ep) (h : Bk w lo b X true true bg) :
    Calls Try.prog 12 #[.pointer (some ⟨b, 0, none⟩), .int .u64 ep] w (BeginPost X lo b false false (max bg ep) w) := by
  obtain ⟨o, l, va, vk, hlo, hb, hO, hL⟩ := h
  replace hb : w.heap[b]? = some (.cells (bkCells X (some ⟨o, 0, none⟩) (some ⟨l, 0, none⟩) bg) 56) := hb
  have c5 : w.cell? ⟨b, 5, none⟩ = some (.pointer (some ⟨o, 0, none⟩)) := cell_of_block hb (i := 5) rfl
  have c6 : w.cell? ⟨b, 6, none⟩ = some (.pointer (some ⟨l, 0, none⟩)) := cell_of_block hb (i := 6) rfl
  have c7 : w.cell? ⟨b, 7, none⟩ = some (.int .u64 bg) := cell_of_block hb (i := 7) rfl
  have f5 := frozen_of_block hb 5
  have f6 := frozen_of_block hb 6
  have f7 := frozen_of_block hb 7
  have d0 : w.cell? ⟨o, 0, none⟩ = some (.int .u64 X.oe) := cell_of_block (hO rfl).2.2 (i := 0) rfl
  have dn : o < b := (hO rfl).2.1
  have g0 : w.cell? ⟨l, 0, none⟩ = some (.int .u64 X.le) := cell_of_block (hL rfl).2.2.1 (i := 0) rfl
  have gn : l < b := (hL rfl).2.1
  have HF : Hid (∀ w', w.grownBy w' (some b) → w'.heap[b]? = some (.cells (bkCells X (none) (none) (max bg ep)) 56) → Bk w' lo b X false false (max bg ep)) := fun w' hg h => bk_set (kO := true) (kL := true) (o := o) (l := l) (va := va) (vk := vk) hlo hO hL hg (lt_of_heap hb) (by simp) (by simp) h
  have HB : Hid (w.heap[b]? = some (.cells (bkCells X (some ⟨o, 0, none⟩) (some ⟨l, 0, none⟩) bg) 56)) := hb
  clear hO hL hb
  go_enter Try.func12, Try.ntmps12
  go_wp2
  all_goals
    go_end0
    refine ⟨rfl, ?_, ?_⟩
    · refine HF.out _ (grown_set (grown_set (grown_set (grown_self _ _) _ _) _ _) _ _) ((setCell_block (setCell_block (setCell_block HB.out 7 _) 6 _) 5 _).trans ?_)
      have e : max bg ep = bg ∨ max bg ep = ep := by omega
      first
        | (rw [show max bg ep = ep from by omega]; rfl)
        | (rw [show max bg ep = bg from by omega]; rfl)
    · exact grown_set (grown_set (grown_set (grown_self _ _) _ _) _ _) _ _

/-- BeginInterval, whatever stands there. -/
theorem beginInterval (X : St) (lo b : Nat) (kO kL : Bool) (bg ep : Int) (w : World) (h : Bk w lo b X kO kL bg) :
    Calls Try.prog 12 #[.pointer (some ⟨b, 0, none⟩), .int .u64 ep] w (BeginPost X lo b (kO && decide (ep ≤ X.oe)) (kL && decide (ep ≤ X.le)) (max bg ep) w) := by
  cases kO <;> cases kL
  · exact begin_nn X lo b bg ep w h
  · by_cases h1 : X.le < ep
    · rw [show decide (ep ≤ X.le) = false from decide_eq_false (by omega)]; exact begin_nd X lo b bg ep w h1 h
    · rw [show decide (ep ≤ X.le) = true from decide_eq_true (by omega)]; exact begin_nk X lo b bg ep w h1 h
  · by_cases h2 : X.oe < ep
    · rw [show decide (ep ≤ X.oe) = false from decide_eq_false (by omega)]; exact begin_dn X lo b bg ep w h2 h
    · rw [show decide (ep ≤ X.oe) = true from decide_eq_true (by omega)]; exact begin_kn X lo b bg ep w h2 h
  · by_cases h1 : X.le < ep
    · rw [show decide (ep ≤ X.le) = false from decide_eq_false (by omega)]
      by_cases h2 : X.oe < ep
      · rw [show decide (ep ≤ X.oe) = false from decide_eq_false (by omega)]; exact begin_dd X lo b bg ep w h1 h2 h
      · rw [show decide (ep ≤ X.oe) = true from decide_eq_true (by omega)]; exact begin_kd X lo b bg ep w h1 h2 h
    · rw [show decide (ep ≤ X.le) = true from decide_eq_true (by omega)]
      by_cases h2 : X.oe < ep
      · rw [show decide (ep ≤ X.oe) = false from decide_eq_false (by omega)]; exact begin_dk X lo b bg ep w h1 h2 h
      · rw [show decide (ep ≤ X.oe) = true from decide_eq_true (by omega)]; exact begin_kk X lo b bg ep w h1 h2 h
end Go.Proofs.Qxb6626453a
