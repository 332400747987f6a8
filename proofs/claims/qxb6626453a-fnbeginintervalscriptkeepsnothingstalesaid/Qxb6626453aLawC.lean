/-
  The numbers that law 1 comes to, behind names.
-/
import Derived.Test.Qxb6626453aLawB
namespace Go.Proofs.Qxb6626453a
open Go.ChangeShapes Go.WideShapes Go.ChangeAt Go.RowKit

/-- What a snapshot holds once the intervals up to m have begun. -/
structure Snap (X : St) (m : Int) (kO kL : Bool) (oe : Int) (fr to : ByteArray) (le : Int) (na nk : Nat) (bg : Int) : Prop where
  qkO : kO = (X.ho && decide (m ≤ X.oe))
  qkL : kL = (X.hl && decide (m ≤ X.le))
  qoe : oe = if kO = true then X.oe else 0
  qfr : fr = if kO = true then X.fr else ByteArray.empty
  qto : to = if kO = true then X.to else ByteArray.empty
  qle : le = if kL = true then X.le else 0
  qna : na = if kL = true then X.na else 0
  qnk : nk = if kL = true then X.nk else 0
  qbg : bg = max X.bg m

theorem Snap.any (X : St) (m : Int) : ∃ kO kL oe fr to le na nk bg, Snap X m kO kL oe fr to le na nk bg := ⟨_, _, _, _, _, _, _, _, _, rfl, rfl, rfl, rfl, rfl, rfl, rfl, rfl, rfl⟩

variable {X : St} {m : Int} {kO kL : Bool} {oe : Int} {fr to : ByteArray} {le : Int} {na nk : Nat} {bg : Int}

theorem Snap.bna (h : Snap X m kO kL oe fr to le na nk bg) (hna : X.na ≤ 1048576) : na ≤ 1048576 := by rw [h.qna]; split <;> omega
theorem Snap.bnk (h : Snap X m kO kL oe fr to le na nk bg) (hnk : X.nk ≤ 1048576) : nk ≤ 1048576 := by rw [h.qnk]; split <;> omega

theorem both_le (e1 e2 x : Int) (b : Bool) : ((b && decide (e1 ≤ x)) && decide (e2 ≤ x)) = (b && decide (max e1 e2 ≤ x)) := by
  rw [Bool.and_assoc]
  congr 1
  rw [Bool.eq_iff_iff]
  simp
  omega

theorem Snap.two (h : Snap X m kO kL oe fr to le na nk bg) {e1 e2 : Int} (hm : m = max e1 e2) {w : World} {lo b : Nat}
    (hb : Bk w lo b X ((X.ho && decide (e1 ≤ X.oe)) && decide (e2 ≤ X.oe)) ((X.hl && decide (e1 ≤ X.le)) && decide (e2 ≤ X.le)) (max (max X.bg e1) e2)) : Bk w lo b X kO kL bg := by
  rw [both_le, both_le, ← hm, ← h.qkO, ← h.qkL, show max (max X.bg e1) e2 = bg from by rw [h.qbg, hm]; omega] at hb
  exact hb

theorem Snap.one (h : Snap X m kO kL oe fr to le na nk bg) {w : World} {lo b : Nat}
    (hb : Bk w lo b X (X.ho && decide (m ≤ X.oe)) (X.hl && decide (m ≤ X.le)) (max X.bg m)) : Bk w lo b X kO kL bg := by
  rw [← h.qkO, ← h.qkL, ← h.qbg] at hb
  exact hb

theorem Snap.read (h : Snap X m kO kL oe fr to le na nk bg) {w : World} {lo b : Nat} (hb : Bk w lo b X kO kL bg) :
    Calls Try.prog 13 #[.pointer (some ⟨b, 0, none⟩)] w fun e w' => ∃ a c k d, e = .returned (snapVal X kO oe fr to kL le (.slice a na c) (.slice k nk d) bg) ∧
      RowIn w lo b (.slice a na c) na (fun i => .string (X.S i)) ∧ RowIn w lo b (.slice k nk d) nk (fun i => .bool (X.K i)) ∧ Below w.heap.size w w' := by
  refine (Go.Proofs.Qxb6626453a.read X lo b kO kL bg w hb).mono ?_
  rintro e w' ⟨va, vk, he, h1, h2, h3⟩
  rw [← h.qoe, ← h.qfr, ← h.qto, ← h.qle] at he
  rw [← h.qna] at h1
  rw [← h.qnk] at h2
  obtain ⟨a, c, rfl, h1⟩ := h1
  obtain ⟨k, d, rfl, h2⟩ := h2
  exact ⟨a, c, k, d, he, ⟨a, c, rfl, h1⟩, ⟨k, d, rfl, h2⟩, h3⟩

/-- The slices that bkExpect hands back. -/
theorem Snap.rows (h : Snap X m kO kL oe fr to le na nk bg) {w : World} {v1 v2 : Value} (r1 : Row w v1 X.na (fun i => .string (X.S i))) (r2 : Row w v2 X.nk (fun i => .bool (X.K i))) :
    ∃ va vk, Row w va na (fun i => .string (X.S i)) ∧ Row w vk nk (fun i => .bool (X.K i)) ∧ ∀ (Wz : World) (x : Lat Wz), Row Wz v1 X.na (fun i => .string (X.S i)) → Row Wz v2 X.nk (fun i => .bool (X.K i)) →
      Calls Try.prog 15 #[stVal X v1 v2, .int .u64 m] x.w fun e w'' => e = .returned (snapVal X kO oe fr to kL le va vk bg) ∧ ∃ y : Lat Wz, w'' = y.w := by
  refine ⟨if kL = true then v1 else .slice none 0 0, if kL = true then v2 else .slice none 0 0, ?_, ?_, ?_⟩
  · rw [h.qna]
    cases kL
    · exact ⟨none, 0, rfl, fun h0 => absurd h0 (by simp)⟩
    · exact r1
  · rw [h.qnk]
    cases kL
    · exact ⟨none, 0, rfl, fun h0 => absurd h0 (by simp)⟩
    · exact r2
  · intro Wz x g1 g2
    refine (expectLat x X v1 v2 m g1 g2).mono ?_
    rintro e w' ⟨he, hy⟩
    rw [← h.qkO, ← h.qkL, ← h.qoe, ← h.qfr, ← h.qto, ← h.qle, ← h.qbg] at he
    exact ⟨he, hy⟩

theorem max_m {a b : Int} (hm : m = max a b) (w : World) : Calls Try.prog 10 #[.int .u64 a, .int .u64 b] w fun e w' => e = .returned (.int .u64 m) ∧ w' = w := by
  rw [hm]; exact max_any a b w

/-- Fourteen cells of a snapshot that lies in a block. -/
theorem snapCells {w : World} {r : Nat} {va vk : Value} (h : w.heap[r]? = some (.cells #[.string X.name, .int .u64 X.ml, .int .u64 X.mh, .int .u64 X.pl, .int .u64 X.ph, .bool kO, .int .u64 oe, .string fr, .string to, .bool kL, .int .u64 le, va, vk, .int .u64 bg] 41)) :
    w.cell? ⟨r, 0, none⟩ = some (.string X.name) ∧ w.cell? ⟨r, 1, none⟩ = some (.int .u64 X.ml) ∧ w.cell? ⟨r, 2, none⟩ = some (.int .u64 X.mh) ∧ w.cell? ⟨r, 3, none⟩ = some (.int .u64 X.pl) ∧ w.cell? ⟨r, 4, none⟩ = some (.int .u64 X.ph) ∧
    w.cell? ⟨r, 5, none⟩ = some (.bool kO) ∧ w.cell? ⟨r, 6, none⟩ = some (.int .u64 oe) ∧ w.cell? ⟨r, 7, none⟩ = some (.string fr) ∧ w.cell? ⟨r, 8, none⟩ = some (.string to) ∧ w.cell? ⟨r, 9, none⟩ = some (.bool kL) ∧
    w.cell? ⟨r, 10, none⟩ = some (.int .u64 le) ∧ w.cell? ⟨r, 11, none⟩ = some va ∧ w.cell? ⟨r, 12, none⟩ = some vk ∧ w.cell? ⟨r, 13, none⟩ = some (.int .u64 bg) :=
  ⟨cell_of_block h rfl, cell_of_block h rfl, cell_of_block h rfl, cell_of_block h rfl, cell_of_block h rfl, cell_of_block h rfl, cell_of_block h rfl, cell_of_block h rfl, cell_of_block h rfl, cell_of_block h rfl, cell_of_block h rfl, cell_of_block h rfl, cell_of_block h rfl, cell_of_block h rfl⟩

theorem wp_region_lat {P : Program} {id : Nat} {Q : Exit → Act → World → Prop} {a : Act} {Wz : World} {l : List Oper} (hm : P.follows .mixedOrders = true) (hB : Region.lexB .any l.toArray = true)
    (h : wpQuiet P l.toArray (fun w' => ∃ x : Lat Wz, w' = x.w) (fun a' => ∀ w', (∃ x : Lat Wz, w' = x.w) → Q .normal a' w') l a) : (Code.region id l.toArray true).wp P Q a Wz :=
  wp_region_quiet (C := fun w' => ∃ x : Lat Wz, w' = x.w) hm hB ⟨⟨_, (Below.refl _ _).drew⟩, rfl⟩ (by simpa using h)

theorem Lat.heap {Wz : World} (x : Lat Wz) {b : Nat} {o : Obj} (h : Wz.heap[b]? = some o) : x.w.heap[b]? = some o := (x.h.block b (lt_of_heap h)).trans h
theorem heap_on {w W : World} {b : Nat} {o : Obj} (h : w.heap[b]? = some o) (hb : Below w.heap.size w W) : W.heap[b]? = some o := (hb.block b (lt_of_heap h)).trans h
theorem below_new (w : World) (o : Obj) : Below w.heap.size w (w.alloc o) := (Below.refl _ _).alloc (Nat.le_refl _) _
theorem hid {p : Prop} (h : p) : Hid p := h
end Go.Proofs.Qxb6626453a
