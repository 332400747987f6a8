/-
  What both laws need of the boxed argument.
-/
import Derived.Test.Qxb6626453aExpect
import Derived.Test.Qxb6626453aEq
namespace Go.Proofs.Qxb6626453a
open Go.ChangeShapes Go.WideShapes Go.ChangeAt Go.RowKit

abbrev stCells (X : St) (va vk : Value) : Array Value := #[.string X.name, .int .u64 X.ml, .int .u64 X.mh, .int .u64 X.pl, .int .u64 X.ph, .bool X.ho, .int .u64 X.oe, .string X.fr, .string X.to, .bool X.hl, .int .u64 X.le, va, vk, .int .u64 X.bg]

/-- The argument lies boxed at block B. -/
def Box (w : World) (B : Nat) (X : St) (va vk : Value) : Prop := w.heap[B]? = some (.cells (stCells X va vk) 26)

theorem Box.new (w : World) (X : St) (va vk : Value) : Box (w.alloc (.cells (stCells X va vk) 26)) w.heap.size X va vk := heap_new _ _ _ rfl

theorem Box.cells {w : World} {B : Nat} {X : St} {va vk : Value} (h : Box w B X va vk) :
    w.cell? ⟨B, 0, none⟩ = some (.string X.name) ∧ w.cell? ⟨B, 1, none⟩ = some (.int .u64 X.ml) ∧ w.cell? ⟨B, 2, none⟩ = some (.int .u64 X.mh) ∧ w.cell? ⟨B, 3, none⟩ = some (.int .u64 X.pl) ∧ w.cell? ⟨B, 4, none⟩ = some (.int .u64 X.ph) ∧
    w.cell? ⟨B, 5, none⟩ = some (.bool X.ho) ∧ w.cell? ⟨B, 6, none⟩ = some (.int .u64 X.oe) ∧ w.cell? ⟨B, 7, none⟩ = some (.string X.fr) ∧ w.cell? ⟨B, 8, none⟩ = some (.string X.to) ∧ w.cell? ⟨B, 9, none⟩ = some (.bool X.hl) ∧
    w.cell? ⟨B, 10, none⟩ = some (.int .u64 X.le) ∧ w.cell? ⟨B, 11, none⟩ = some va ∧ w.cell? ⟨B, 12, none⟩ = some vk ∧ w.cell? ⟨B, 13, none⟩ = some (.int .u64 X.bg) ∧ w.frozen? ⟨B, 11, none⟩ = false ∧ w.frozen? ⟨B, 12, none⟩ = false :=
  ⟨cell_of_block h rfl, cell_of_block h rfl, cell_of_block h rfl, cell_of_block h rfl, cell_of_block h rfl, cell_of_block h rfl, cell_of_block h rfl, cell_of_block h rfl, cell_of_block h rfl, cell_of_block h rfl, cell_of_block h rfl, cell_of_block h rfl, cell_of_block h rfl, cell_of_block h rfl, frozen_of_block h _, frozen_of_block h _⟩

theorem Box.later {w W : World} {B : Nat} {X : St} {va vk : Value} (h : Box w B X va vk) (hb : Below w.heap.size w W) : Box W B X va vk := (hb.block B (lt_of_heap h)).trans h
theorem Box.grown {w W : World} {B b : Nat} {X : St} {va vk : Value} (h : Box w B X va vk) (hg : w.grownBy W (some b)) (hne : B < b) : Box W B X va vk := (hg.block B (lt_of_heap h) (fun e => by cases e; omega)).trans h
theorem Box.set11 {w : World} {B : Nat} {X : St} {va vk : Value} (h : Box w B X va vk) (v : Value) : Box (w.setCell ⟨B, 11, none⟩ v) B X v vk := (setCell_block h 11 v).trans rfl
theorem Box.set12 {w : World} {B : Nat} {X : St} {va vk : Value} (h : Box w B X va vk) (v : Value) : Box (w.setCell ⟨B, 12, none⟩ v) B X va v := (setCell_block h 12 v).trans rfl

def LawPost (w : World) (e : Ending) (w' : World) : Prop := e = .returned (.bool true) ∧ Below w.heap.size w w'
end Go.Proofs.Qxb6626453a
