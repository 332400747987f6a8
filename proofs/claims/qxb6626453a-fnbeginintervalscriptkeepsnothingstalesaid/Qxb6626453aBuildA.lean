import Derived.Test.Qxb6626453aSizes

namespace Go.Proofs.Qxb6626453a
open Go.ChangeShapes Go.WideShapes Go.ChangeAt Go.RowKit

theorem newLead (le : Int) (a : Option Addr) (n c : Nat) (k : Option Addr) (m d : Nat) (w : World) :
    Calls Try.prog 23 #[.int .u64 le, .slice a n c, .slice k m d] w fun e w' => e = .returned (.pointer (some ⟨w.heap.size, 0, none⟩)) ∧ w' = w.alloc (.cells #[.int .u64 le, .slice a n c, .slice k m d] 58) := by
  go_enter Try.func23, Try.ntmps23
  go_wp2
  go_ret
  exact ⟨rfl, rfl⟩

theorem newBk (nm : ByteArray) (a b c d : Int) (o l : Option Addr) (bg : Int) (w : World) :
    Calls Try.prog 22 #[.string nm, .agg #[.int .u64 a, .int .u64 b], .agg #[.int .u64 c, .int .u64 d], .pointer o, .pointer l, .int .u64 bg] w fun e w' => e = .returned (.pointer (some ⟨w.heap.size + 2, 0, none⟩)) ∧
      w' = ((w.alloc (.cells #[.int .u64 a, .int .u64 b] 37)).alloc (.cells #[.int .u64 c, .int .u64 d] 37)).alloc (.cells #[.string nm, .int .u64 a, .int .u64 b, .int .u64 c, .int .u64 d, .pointer o, .pointer l, .int .u64 bg] 56) := by
  go_enter Try.func22, Try.ntmps22
  go_wp2
  go_ret
  exact ⟨rfl, rfl⟩


/-- The cells that the great statement of bkBuild reads. -/
abbrev BoxS (X : St) (B : Nat) (va vk : Value) (w W : World) : Prop :=
  W.cell? ⟨B, 0, none⟩ = some (.string X.name) ∧ W.cell? ⟨B, 10, none⟩ = some (.int .u64 X.le) ∧ W.cell? ⟨B, 11, none⟩ = some va ∧ W.cell? ⟨B, 12, none⟩ = some vk ∧
      W.cell? ⟨B, 13, none⟩ = some (.int .u64 X.bg) ∧ W.cell? ⟨B + 1, 0, none⟩ = some (.int .u64 X.ml) ∧ W.cell? ⟨B + 1, 1, none⟩ = some (.int .u64 X.mh) ∧ W.cell? ⟨B + 1 + 1, 0, none⟩ = some (.int .u64 X.pl) ∧ W.cell? ⟨B + 1 + 1, 1, none⟩ = some (.int .u64 X.ph) ∧ Below B w W

theorem boxS_below {X : St} {B : Nat} {va vk : Value} {w W W' : World} (h : BoxS X B va vk w W) (hb : Below W.heap.size W W') : BoxS X B va vk w W' := by
  obtain ⟨h1, h2, h3, h4, h5, h6, h7, h8, h9, h10⟩ := h
  have l1 : B < W.heap.size := block_lt_of_cell h1
  have l2 : B + 1 < W.heap.size := block_lt_of_cell h6
  have l3 : B + 1 + 1 < W.heap.size := block_lt_of_cell h8
  have g : ∀ b i, b < W.heap.size → W'.cell? ⟨b, i, none⟩ = W.cell? ⟨b, i, none⟩ := fun b i h => hb.cell (p := ⟨b, i, none⟩) h
  exact ⟨(g _ _ l1).trans h1, (g _ _ l1).trans h2, (g _ _ l1).trans h3, (g _ _ l1).trans h4, (g _ _ l1).trans h5, (g _ _ l2).trans h6, (g _ _ l2).trans h7, (g _ _ l3).trans h8, (g _ _ l3).trans h9, h10.trans (hb.mono (by omega))⟩

theorem boxS_alloc {X : St} {B : Nat} {va vk : Value} {w W : World} (o : Obj) (h : BoxS X B va vk w W) : BoxS X B va vk w (W.alloc o) := boxS_below h ((Below.refl _ _).alloc (Nat.le_refl _) _)
theorem boxS_drew {X : St} {B : Nat} {va vk : Value} {w W : World} (h : BoxS X B va vk w W) : BoxS X B va vk w W.drew := boxS_below h ((Below.refl _ _).drew)

theorem cell_new (c : Array Value) (t : TypeId) (W : World) (b i : Nat) (hb : b = W.heap.size) : (W.alloc (.cells c t)).cell? ⟨b, i, none⟩ = c[i]? := by
  subst hb
  rw [World.cell?, (MapKept.heap_alloc W _).1]
  rfl
theorem cell_old (o : Obj) (W : World) (b i : Nat) (hb : b < W.heap.size) : (W.alloc o).cell? ⟨b, i, none⟩ = W.cell? ⟨b, i, none⟩ := ((Below.refl W.heap.size W).alloc (Nat.le_refl _) o).cell (p := ⟨b, i, none⟩) hb

theorem boxS_start (X : St) (va vk : Value) (w : World) (ho hl : Bool) :
    BoxS X w.heap.size va vk w (((w.alloc (.cells #[.string X.name, .int .u64 X.ml, .int .u64 X.mh, .int .u64 X.pl, .int .u64 X.ph, .bool ho, .int .u64 X.oe, .string X.fr, .string X.to, .bool hl, .int .u64 X.le, va, vk, .int .u64 X.bg] 26)).alloc
      (.cells #[.int .u64 X.ml, .int .u64 X.mh] 37)).alloc (.cells #[.int .u64 X.pl, .int .u64 X.ph] 37)) := by
  refine ⟨?_, ?_, ?_, ?_, ?_, ?_, ?_, ?_, ?_, ?_⟩
  iterate 5 (rw [cell_old _ _ _ _ (by simp; omega), cell_old _ _ _ _ (by simp), cell_new _ _ _ _ _ rfl]; rfl)
  iterate 2 (rw [cell_old _ _ _ _ (by simp), cell_new _ _ _ _ _ (by simp)]; rfl)
  iterate 2 (rw [cell_new _ _ _ _ _ (by simp)]; rfl)
  exact (((Below.refl _ _).alloc (Nat.le_refl _) _).alloc (by simp) _).alloc (by simp; omega) _

theorem gen_world {P : Program} {c : Code} {Q : Exit → Act → World → Prop} {a : Act} {W : World} (S : World → Prop) (h : S W) (k : ∀ W, S W → Code.wp P c Q a W) : Code.wp P c Q a W := k W h

/-- AT BLOCK b STANDS A BOOKKEEPER of the state X, of which what is owed is there if kO, what is led if kL; begun at bg. All that it leads to lies from lo on and below b. -/
def Bk (w : World) (lo b : Nat) (X : St) (kO kL : Bool) (bg : Int) : Prop :=
  ∃ (o l : Nat) (va vk : Value), lo ≤ b ∧
    w.heap[b]? = some (.cells #[.string X.name, .int .u64 X.ml, .int .u64 X.mh, .int .u64 X.pl, .int .u64 X.ph, .pointer (if kO = true then some ⟨o, 0, none⟩ else none), .pointer (if kL = true then some ⟨l, 0, none⟩ else none), .int .u64 bg] 56) ∧
    (kO = true → lo ≤ o ∧ o < b ∧ w.heap[o]? = some (.cells #[.int .u64 X.oe, .string X.fr, .string X.to] 39)) ∧
    (kL = true → lo ≤ l ∧ l < b ∧ w.heap[l]? = some (.cells #[.int .u64 X.le, va, vk] 58) ∧ RowIn w lo b va X.na (fun i => .string (X.S i)) ∧ RowIn w lo b vk X.nk (fun i => .bool (X.K i)))

theorem Bk.same {w w' : World} {lo b : Nat} {X : St} {kO kL : Bool} {bg : Int} (h : Bk w lo b X kO kL bg) (hs : Same lo (b + 1) w w') : Bk w' lo b X kO kL bg := by
  obtain ⟨o, l, va, vk, h1, h2, h3, h4⟩ := h
  have hs' : Same lo b w w' := fun k a c => hs k a (by omega)
  refine ⟨o, l, va, vk, h1, (hs b h1 (by omega)).trans h2, fun h => ?_, fun h => ?_⟩
  · obtain ⟨g1, g2, g3⟩ := h3 h
    exact ⟨g1, g2, (hs o g1 (by omega)).trans g3⟩
  · obtain ⟨g1, g2, g3, g4, g5⟩ := h4 h
    exact ⟨g1, g2, (hs l g1 (by omega)).trans g3, g4.same hs', g5.same hs'⟩

def BuildPost (X : St) (w : World) (e : Ending) (w' : World) : Prop :=
  ∃ b, e = .returned (.pointer (some ⟨b, 0, none⟩)) ∧ Bk w' w.heap.size b X X.ho X.hl X.bg ∧ b < w'.heap.size ∧ Below w.heap.size w w'

theorem heap_new (w : World) (o : Obj) (k : Nat) (hk : k = w.heap.size) : (w.alloc o).heap[k]? = some o := by subst hk; exact (MapKept.heap_alloc w _).1
theorem heap_old (w : World) (o : Obj) (k : Nat) (hk : k < w.heap.size) : (w.alloc o).heap[k]? = w.heap[k]? := Below.heap_alloc w o k hk

/-- Nothing led: the end of bkBuild. -/
theorem built_f (X : St) (w W : World) (hl : X.hl = false) (o : Nat) (po : Option Addr) (hpo : po = if X.ho = true then some ⟨o, 0, none⟩ else none) (hb : Below w.heap.size w W)
    (hO : X.ho = true → w.heap.size ≤ o ∧ W.heap[o]? = some (.cells #[.int .u64 X.oe, .string X.fr, .string X.to] 39)) (o1 o2 : Obj) (b : Nat) (hB : b = W.heap.size + 2) :
    BuildPost X w (.returned (.pointer (some ⟨b, 0, none⟩)))
      (((W.alloc o1).alloc o2).alloc (.cells #[.string X.name, .int .u64 X.ml, .int .u64 X.mh, .int .u64 X.pl, .int .u64 X.ph, .pointer po, .pointer none, .int .u64 X.bg] 56)) := by
  subst hB
  have hsz := hb.size
  refine ⟨_, rfl, ⟨o, 0, .slice none 0 0, .slice none 0 0, by omega, ?_, fun h => ?_, fun h => ?_⟩, by simp, ?_⟩
  · rw [heap_new _ _ _ (by simp), hpo, hl]; rfl
  · obtain ⟨g1, g2⟩ := hO h
    have hlt : o < W.heap.size := by
      rcases Nat.lt_or_ge o W.heap.size with h | h
      · exact h
      · rw [Array.getElem?_eq_none h] at g2; cases g2
    exact ⟨g1, by omega, by rw [heap_old _ _ _ (by simp; omega), heap_old _ _ _ (by simp; omega), heap_old _ _ _ hlt]; exact g2⟩
  · rw [hl] at h; cases h
  · exact ((hb.alloc hsz _).alloc (by simp; omega) _).alloc (by simp; omega) _

/-- Something is led: the end of bkBuild. -/
theorem built_t (X : St) (w W w1 w2 : World) (hl : X.hl = true) (o : Nat) (po : Option Addr) (hpo : po = if X.ho = true then some ⟨o, 0, none⟩ else none) (hb : Below w.heap.size w W)
    (hO : X.ho = true → w.heap.size ≤ o ∧ W.heap[o]? = some (.cells #[.int .u64 X.oe, .string X.fr, .string X.to] 39))
    (v1 v2 : Value) (hr1 : RowIn w1 W.heap.size w1.heap.size v1 X.na (fun i => .string (X.S i))) (hb1 : Below W.heap.size W w1) (hr2 : RowIn w2 w1.heap.size w2.heap.size v2 X.nk (fun i => .bool (X.K i))) (hb2 : Below w1.heap.size w1 w2)
    (o1 o2 : Obj) (l b : Nat) (hL : l = w2.heap.size) (hB : b = w2.heap.size + 3) :
    BuildPost X w (.returned (.pointer (some ⟨b, 0, none⟩)))
      ((((w2.alloc (.cells #[.int .u64 X.le, v1, v2] 58)).alloc o1).alloc o2).alloc (.cells #[.string X.name, .int .u64 X.ml, .int .u64 X.mh, .int .u64 X.pl, .int .u64 X.ph, .pointer po, .pointer (some ⟨l, 0, none⟩), .int .u64 X.bg] 56)) := by
  subst hB; subst hL
  have hsz := hb.size
  have hs1 := hb1.size
  have hs2 := hb2.size
  have hall : Below w.heap.size w w2 := hb.trans ((hb1.mono hsz).trans (hb2.mono (by omega)))
  have hold : ∀ k, k < w2.heap.size → ((((w2.alloc (.cells #[.int .u64 X.le, v1, v2] 58)).alloc o1).alloc o2).alloc (.cells #[.string X.name, .int .u64 X.ml, .int .u64 X.mh, .int .u64 X.pl, .int .u64 X.ph, .pointer po, .pointer (some ⟨w2.heap.size, 0, none⟩), .int .u64 X.bg] 56)).heap[k]? = w2.heap[k]? := fun k hk => by
    rw [heap_old _ _ _ (by simp; omega), heap_old _ _ _ (by simp; omega), heap_old _ _ _ (by simp; omega), heap_old _ _ _ hk]
  refine ⟨_, rfl, ⟨o, w2.heap.size, v1, v2, by omega, ?_, fun h => ?_, fun h => ?_⟩, by simp, ?_⟩
  · rw [heap_new _ _ _ (by simp), hpo, hl]; rfl
  · obtain ⟨g1, g2⟩ := hO h
    have hlt : o < W.heap.size := by
      rcases Nat.lt_or_ge o W.heap.size with h | h
      · exact h
      · rw [Array.getElem?_eq_none h] at g2; cases g2
    exact ⟨g1, by omega, by rw [hold o (by omega), hb2.block o (by omega), hb1.block o hlt]; exact g2⟩
  · refine ⟨by omega, by omega, ?_, ?_, ?_⟩
    · rw [heap_old _ _ _ (by simp; omega), heap_old _ _ _ (by simp; omega), heap_old _ _ _ (by simp), heap_new _ _ _ rfl]
    · refine ((hr1.same (Same.of_below hb2 (Nat.le_refl _))).same (fun k _ h2 => hold k (by omega))).wider hsz (by omega)
    · exact (hr2.same (fun k _ h2 => hold k h2)).wider (by omega) (by omega)
  · exact (((hall.alloc (by omega) _).alloc (by simp; omega) _).alloc (by simp; omega) _).alloc (by simp; omega) _

theorem Row.later {w W : World} {v : Value} {n : Nat} {f : Nat → Value} (h : Row w v n f) (hb : Below w.heap.size w W) : Row W v n f := by
  obtain ⟨a, cap, hv, h⟩ := h
  refine ⟨a, cap, hv, fun hn => ?_⟩
  obtain ⟨b, off, ha, hc⟩ := h hn
  have hlt : b < w.heap.size := block_lt_of_cell (hc 0 hn)
  exact ⟨b, off, ha, fun i hi' => (hb.cell (p := ⟨b, off + i, none⟩) hlt).trans (hc i hi')⟩

/-- Two steps, each of which keeps what it found. -/
theorem below_step {w W W' : World} (h : Below w.heap.size w W) (k : Below W.heap.size W W') : Below w.heap.size w W' := h.trans (k.mono h.size)

/-- 'Below w.heap.size w W', behind a name. -/
def After (w W : World) : Prop := Below w.heap.size w W
theorem After.out {w W : World} (h : After w W) : Below w.heap.size w W := h

/-- What is owed stands at block o of W. -/
def OwAt (w W : World) (X : St) (o : Nat) : Prop := w.heap.size ≤ o ∧ W.heap[o]? = some (.cells #[.int .u64 X.oe, .string X.fr, .string X.to] 39)
theorem OwAt.out {w W : World} {X : St} {o : Nat} (h : OwAt w W X o) : w.heap.size ≤ o ∧ W.heap[o]? = some (.cells #[.int .u64 X.oe, .string X.fr, .string X.to] 39) := h
end Go.Proofs.Qxb6626453a
