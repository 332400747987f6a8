/-
  Small laws for the two laws' walks: what stays in later worlds.
-/
import Derived.Test.Qxb6626453aLawA
namespace Go.Proofs.Qxb6626453a
open Go.ChangeShapes Go.WideShapes Go.ChangeAt Go.RowKit

theorem Bk.lt {w : World} {lo b : Nat} {X : St} {kO kL : Bool} {bg : Int} (h : Bk w lo b X kO kL bg) : lo ≤ b ∧ b < w.heap.size := by
  obtain ⟨o, l, va, vk, h1, h2, _⟩ := h
  exact ⟨h1, lt_of_heap h2⟩
theorem Bk.below {w W : World} {lo b : Nat} {X : St} {kO kL : Bool} {bg : Int} (h : Bk w lo b X kO kL bg) (hb : Below w.heap.size w W) : Bk W lo b X kO kL bg :=
  h.same (Same.of_below hb (by have := h.lt; omega))
theorem Bk.grown {w W : World} {lo b c : Nat} {X : St} {kO kL : Bool} {bg : Int} (h : Bk w lo b X kO kL bg) (hg : w.grownBy W (some c)) (hc : b < c) : Bk W lo b X kO kL bg :=
  h.same (fun k _ h2 => hg.block k (by have := h.lt; omega) (fun e => by cases e; omega))

theorem after_grown {w W W' : World} {b : Nat} (h : After w W) (hg : W.grownBy W' (some b)) (hb : w.heap.size ≤ b) : After w W' :=
  Below.grown h hg h.size (fun k e => by cases e; exact hb)
theorem after_below {w W W' : World} (h : After w W) (hb : Below W.heap.size W W') : After w W' := below_step h hb

/-- The world at which the copies have been made, and what is known of it. -/
structure Ready (w W : World) (X : St) (v1 v2 : Value) : Prop where
  box : Box W w.heap.size X v1 v2
  r1 : Row W v1 X.na (fun i => .string (X.S i))
  r2 : Row W v2 X.nk (fun i => .bool (X.K i))
  after : After w W

theorem ready_of {w w3 w4 w5 : World} {X : St} {va vk v1 v2 : Value} (hw : After w w3) (hx : Box w3 w.heap.size X va vk) (hr1 : RowIn w4 w3.heap.size w4.heap.size v1 X.na (fun i => .string (X.S i))) (hb4 : Below w3.heap.size w3 w4)
    (hr2 : RowIn w5 w4.heap.size w5.heap.size v2 X.nk (fun i => .bool (X.K i))) (hb5 : Below w4.heap.size (w4.setCell ⟨w.heap.size, 11, none⟩ v1) w5) :
    Ready w (w5.setCell ⟨w.heap.size, 12, none⟩ v2) X v1 v2 := by
  have hB : w.heap.size < w3.heap.size := lt_of_heap hx
  have s4 := hb4.size
  have s5 := hb5.size
  simp at s5
  have k1 : ∀ (W : World) (lo hi i : Nat) (v : Value), w.heap.size < lo → Same lo hi W (W.setCell ⟨w.heap.size, i, none⟩ v) := fun W lo hi i v hlo k h1 _ => heap_setCell_other _ _ _ _ (by simp; omega)
  have hx5 : Box w5 w.heap.size X v1 vk := ((hx.later hb4).set11 v1).later (by simpa using hb5)
  refine ⟨hx5.set12 v2, ?_, ?_, ?_⟩
  · exact (((hr1.same (k1 _ _ _ _ _ hB)).same (Same.of_below hb5 (Nat.le_refl _))).same (k1 _ _ _ _ _ hB)).row
  · exact (hr2.same (k1 _ _ _ _ _ (by omega))).row
  · exact ((((below_step hw hb4).setCell (Nat.le_refl _) v1).trans (hb5.mono (by omega)))).setCell (Nat.le_refl _) v2

theorem gen_calls {P : Program} {f : FuncId} {args : Array Value} {Q : Ending → World → Prop} {W : World} (S : World → Prop) (h : S W) (k : ∀ W, S W → Calls P f args W Q) : Calls P f args W Q := k W h

/-- A world behind Wz in which nothing that lay in Wz has turned. -/
structure Lat (Wz : World) where
  w : World
  h : Below Wz.heap.size Wz w

theorem Lat.cell {Wz : World} (x : Lat Wz) {b i : Nat} {v : Value} (h : Wz.cell? ⟨b, i, none⟩ = some v) : x.w.cell? ⟨b, i, none⟩ = some v := cell_on h x.h

/-- bkEqSnap, in a world behind Wz. -/
theorem eqLat {Wz : World} (x : Lat Wz) (X : St) (kO : Bool) (oe : Int) (fr to : ByteArray) (kL : Bool) (le bg : Int) (na nk : Nat) (va vk va' vk' : Value) (hna : na ≤ 1048576) (hnk : nk ≤ 1048576)
    (ha : Row Wz va na (fun i => .string (X.S i))) (hk : Row Wz vk nk (fun i => .bool (X.K i))) (ha' : Row Wz va' na (fun i => .string (X.S i))) (hk' : Row Wz vk' nk (fun i => .bool (X.K i))) :
    Calls Try.prog 14 #[snapVal X kO oe fr to kL le va vk bg, snapVal X kO oe fr to kL le va' vk' bg] x.w fun e w'' => e = .returned (.bool true) ∧ ∃ y : Lat Wz, w'' = y.w :=
  (eqSnap X kO oe fr to kL le bg na nk va vk va' vk' x.w hna hnk (ha.later x.h) (hk.later x.h) (ha'.later x.h) (hk'.later x.h)).mono fun _ w' ⟨he, hb⟩ => ⟨he, ⟨w', below_step x.h hb⟩, rfl⟩

theorem expectLat {Wz : World} (x : Lat Wz) (X : St) (va vk : Value) (m : Int) (ha : Row Wz va X.na (fun i => .string (X.S i))) (hk : Row Wz vk X.nk (fun i => .bool (X.K i))) :
    Calls Try.prog 15 #[stVal X va vk, .int .u64 m] x.w fun e w'' => e = .returned (snapVal X (X.ho && decide (m ≤ X.oe)) (if (X.ho && decide (m ≤ X.oe)) = true then X.oe else 0) (if (X.ho && decide (m ≤ X.oe)) = true then X.fr else ByteArray.empty) (if (X.ho && decide (m ≤ X.oe)) = true then X.to else ByteArray.empty) (X.hl && decide (m ≤ X.le)) (if (X.hl && decide (m ≤ X.le)) = true then X.le else 0)
    (if (X.hl && decide (m ≤ X.le)) = true then va else .slice none 0 0) (if (X.hl && decide (m ≤ X.le)) = true then vk else .slice none 0 0) (max X.bg m)) ∧ ∃ y : Lat Wz, w'' = y.w :=
  (expect X va vk m x.w (ha.later x.h) (hk.later x.h)).mono fun _ w' ⟨he, hb⟩ => ⟨he, ⟨w', below_step x.h hb⟩, rfl⟩
end Go.Proofs.Qxb6626453a
