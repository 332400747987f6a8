/-
  What a schema under way looks like in memory.
-/
import Derived.Test.Qxb6626881aLoops
import Derived.Maps.AppendAt
namespace Go.Proofs.Qxb6626881a
open Go.ChangeShapes Go.WideShapes Go.ChangeAt Go.RowKit Go.Maps Go.WideMaps

theorem gen_world {P : Program} {c : Code} {Q : Exit → Act → World → Prop} {a : Act} {W : World} (S : World → Prop) (h : S W) (k : ∀ W, S W → Code.wp P c Q a W) : Code.wp P c Q a W := k W h
theorem heap_new (w : World) (o : Obj) (k : Nat) (hk : k = w.heap.size) : (w.alloc o).heap[k]? = some o := by subst hk; exact (MapKept.heap_alloc w _).1
theorem cell_of_block {w : World} {b : Nat} {cs : Array Value} {e : TypeId} {fz : Nat × Nat} (h : w.heap[b]? = some (.cells cs e fz)) {i : Nat} {v : Value} (hi : cs[i]? = some v) : w.cell? ⟨b, i, none⟩ = some v := by
  simp [World.cell?, h, hi]
theorem below_new (w : World) (o : Obj) : Below w.heap.size w (w.alloc o) := (Below.refl _ _).alloc (Nat.le_refl _) _
theorem below_step {w W W' : World} (h : Below w.heap.size w W) (k : Below W.heap.size W W') : Below w.heap.size w W' := h.trans (k.mono h.size)

/-- What is known when a new type has been laid at block b, its empty map at block rb. -/
def Laid (wo W : World) : Prop := W.cell? ⟨wo.heap.size + 1, 2, none⟩ = some (.map (some wo.heap.size)) ∧ W.ownsMap Try.prog 9 rAny wo.heap.size 0 (.map []) ∧ Below wo.heap.size wo W ∧ wo.heap.size + 1 < W.heap.size
theorem Laid.start (wo : World) (x y : Value) : Laid wo ((wo.alloc (.map #[] 0)).alloc (.cells #[x, y, .map (some wo.heap.size)] 39)) :=
  ⟨cell_of_block (heap_new _ _ _ (by simp)) (i := 2) rfl, (World.ownsMap_made wo _ _ _).alloc _, below_step (below_new _ _) (below_new _ _), by simp⟩

/-- The relations of type k under way: j names have been laid. -/
def RelInv (W wi : World) (rb : Nat) (S : Nat → ByteArray) (j : Nat) (D : DataW Nat) : Prop :=
  wi.ownsMap Try.prog 9 rAny rb j D ∧ Maps.size D = ds S j (fun _ => true) ∧ (∀ x : ByteArray, Maps.has D (.string x.data.toList) = among S j x) ∧ W.grownBy wi (some rb)

/-- At block b lies a type that has d relations; it and its map lie behind block lo. -/
def TdIn (w : World) (lo b d : Nat) : Prop := ∃ rb D n, lo < b ∧ lo < rb ∧ w.cell? ⟨b, 2, none⟩ = some (.map (some rb)) ∧ w.ownsMap Try.prog 9 rAny rb n D ∧ Maps.size D = d

/-- The schema under way: k types have been laid. -/
def Inv (w wr : World) (S : Nat → ByteArray) (m : Nat) (ρ : Rel) (k : Nat) (es : List (Lit × DataW Nat)) (f : Nat → Nat) : Prop :=
  wr.cell? ⟨w.heap.size + 1 + 1, 0, none⟩ = some (.map (some w.heap.size)) ∧ wr.ownsMap Try.prog 9 rTok w.heap.size k (.map es) ∧ (∀ e ∈ es, ∃ b, e.2 = .held b ∧ b < wr.heap.size ∧ TdIn wr (w.heap.size + 1 + 1) b (f b)) ∧
    (∀ P : Lit → Bool, sumE f P es = tp S (dc m ρ) k (fun x => P (.string x.data.toList))) ∧ Below w.heap.size w wr

def NewPost (w : World) (N : Nat) (e : Ending) (w' : World) : Prop := ∃ s, e = .returned (.pointer (some ⟨s, 0, none⟩)) ∧ SchemaAt w' s N ∧ Below w.heap.size w w'


theorem isKey_string (x : ByteArray) : WideAt.IsKeyLit (.string x.data.toList) := trivial
theorem lit_ne {x y : ByteArray} (h : x ≠ y) : (Lit.string x.data.toList) ≠ (.string y.data.toList) := fun e => h (bytes_inj (by injection e))

theorem undrew {wi w' : World} {r : Option Nat} (h : wi.drew.grownBy w' r) : wi.grownBy w' r := ⟨h.os, h.tape, h.output, h.size, h.block⟩

/-- One relation name more. -/
theorem RelInv.step {W wi w' : World} {rb : Nat} {S : Nat → ByteArray} {j : Nat} {D : DataW Nat} (h : RelInv W wi rb S j D) {o : Obj}
    (h1 : w'.ownsMap Try.prog 9 rAny rb (j + 1) (D.put (.string (S j).data.toList) .nil)) (h2 : (wi.drew.alloc o).grownBy w' (some rb)) : RelInv W w' rb S (j + 1) (D.put (.string (S j).data.toList) .nil) := by
  obtain ⟨r1, r2, r3, r4⟩ := h
  refine ⟨h1, ?_, fun x => ?_, r4.trans (undrew (World.grownBy.trans (World.grownBy_alloc wi.drew o _) h2))⟩
  · rw [size_put (r1.tidy keyLaw), r3, r2, ds_succ]
    cases among S j (S j) <;> simp
  · rw [among_succ]
    by_cases e : S j = x
    · rw [← e, has_put_same r1.isMap (isKey_string _)]; simp
    · rw [has_put_other (lit_ne (fun h => e h.symm)), r3]; simp [e]

theorem grown_rest {w wr : World} (h : Below w.heap.size w wr) {b : Nat} : w.grownBy wr (some b) := ⟨h.os, h.tape, h.output, h.size, fun k hk _ => h.block k hk⟩

theorem TdIn.grown {w W : World} {lo b d c : Nat} (h : TdIn w lo b d) (hg : w.grownBy W (some c)) (hc : c ≤ lo ∨ w.heap.size ≤ c) : TdIn W lo b d := by
  obtain ⟨rb, D, n, h1, h2, h3, h4, h5⟩ := h
  have l1 := block_lt_of_cell h3
  have l2 := h4.lt
  simp at l1
  exact ⟨rb, D, n, h1, h2, hg.cell h3 (fun e => by cases e; simp at hc; omega), h4.kept hg (fun e => by cases e; omega), h5⟩
theorem TdIn.below {w W : World} {lo b d : Nat} (h : TdIn w lo b d) (hb : Below w.heap.size w W) : TdIn W lo b d := by
  obtain ⟨rb, D, n, h1, h2, h3, h4, h5⟩ := h
  exact ⟨rb, D, n, h1, h2, cell_on h3 hb, ownsMap_on h4 hb, h5⟩

/-- One type more. -/
theorem Inv.step {w wo W2 wi w' : World} {S : Nat → ByteArray} {m : Nat} {ρ : Rel} {k : Nat} {es : List (Lit × DataW Nat)} {f : Nat → Nat} (h : Inv w wo S m ρ k es f) (hL : Laid wo W2) {n' : Nat} {D : DataW Nat}
    (hg : W2.grownBy wi (some wo.heap.size)) (ho : wi.ownsMap Try.prog 9 rAny wo.heap.size n' D) (hd : Maps.size D = dc m ρ k)
    (h1 : w'.ownsMap Try.prog 9 rTok w.heap.size (k + 1) ((DataW.map es).put (.string (S k).data.toList) (.held (wo.heap.size + 1)))) (h2 : wi.drew.grownBy w' (some w.heap.size)) :
    Inv w w' S m ρ (k + 1) (ents ((DataW.map es).put (.string (S k).data.toList) (.held (wo.heap.size + 1)))) (fun b => if b = wo.heap.size + 1 then dc m ρ k else f b) := by
  obtain ⟨i1, i2, i3, i4, i5⟩ := h
  obtain ⟨l1, l2, l3, l4⟩ := hL
  have q1 := i2.lt
  have q2 := block_lt_of_cell i1
  simp at q2
  have s1 := l3.size
  have s2 := hg.size
  have s3 := h2.size
  simp at s3
  have h2' : wi.grownBy w' (some w.heap.size) := undrew h2
  have hgo : wo.grownBy wi (some wo.heap.size) := (grown_rest l3).trans hg
  have hnew : TdIn w' (w.heap.size + 1 + 1) (wo.heap.size + 1) (dc m ρ k) := by
    have : TdIn wi (w.heap.size + 1 + 1) (wo.heap.size + 1) (dc m ρ k) := ⟨wo.heap.size, D, n', by omega, by omega, hg.cell l1 (by simp), ho, hd⟩
    exact this.grown h2' (.inl (by omega))
  have hold : ∀ e ∈ es, ∃ b, e.2 = .held b ∧ b < wo.heap.size ∧ TdIn w' (w.heap.size + 1 + 1) b (f b) := fun e he => by
    obtain ⟨b, e1, e2, e3⟩ := i3 e he
    exact ⟨b, e1, e2, (e3.grown hgo (.inr (Nat.le_refl _))).grown h2' (.inl (by omega))⟩
  refine ⟨?_, h1, fun e he => ?_, fun P => ?_, ?_⟩
  · exact h2'.cell (hg.cell (cell_on i1 l3) (fun e => by simp at e; omega)) (fun e => by simp at e; omega)
  · rcases mem_put he with rfl | he
    · exact ⟨_, rfl, by omega, by dsimp only; rw [if_pos rfl]; exact hnew⟩
    · obtain ⟨b, e1, e2, e3⟩ := hold e he
      exact ⟨b, e1, by omega, by dsimp only; rw [if_neg (by omega)]; exact e3⟩
  · rw [sumE_put, if_pos rfl]
    have e0 : sumE (fun b => if b = wo.heap.size + 1 then dc m ρ k else f b) (fun z => P z && !z.sameKey (.string (S k).data.toList)) es = sumE f (fun z => P z && !z.sameKey (.string (S k).data.toList)) es := sumE_congr _ _ _ _ es (fun e he => by
      obtain ⟨b, e1, e2, _⟩ := hold e he
      rw [e1]
      show (if b = wo.heap.size + 1 then dc m ρ k else f b) = f b
      rw [if_neg (by omega)]) (fun _ _ => rfl)
    rw [e0, i4 (fun z => P z && !z.sameKey (.string (S k).data.toList))]
    show _ = tp S (dc m ρ) k (fun x => P (.string x.data.toList) && decide (x ≠ S k)) + _
    rw [Nat.add_comm]
    congr 1
    refine tp_congr _ _ _ _ k _ _ (fun x => ?_) (fun _ _ => rfl) (fun _ _ => rfl)
    by_cases e : x = S k
    · rw [e, WideAt.sameKey_self (isKey_string _)]; simp
    · rw [sameKey_ne (lit_ne e)]; simp [e]
  · exact (below_step i5 l3).trans ⟨(h2.os.trans hg.os), (h2.tape.trans hg.tape), (h2.output.trans hg.output), Nat.le_trans hg.size h2.size, fun b hb => (h2'.block b (by omega) (fun e => by simp at e; omega)).trans (hg.block b (by omega) (fun e => by simp at e; omega))⟩

theorem Inv.done {w wr : World} {S : Nat → ByteArray} {m : Nat} {ρ : Rel} {k : Nat} {es : List (Lit × DataW Nat)} {f : Nat → Nat} (h : Inv w wr S m ρ k es f) : NewPost w (tp S (dc m ρ) k (fun _ => true)) (.returned (.pointer (some ⟨w.heap.size + 1 + 1, 0, none⟩))) wr := by
  obtain ⟨i1, i2, i3, i4, i5⟩ := h
  refine ⟨_, rfl, ⟨w.heap.size, k, es, f, i1, i2, fun e he => ?_, i4 (fun _ => true)⟩, i5⟩
  obtain ⟨b, e1, _, rb, D, n, _, _, e4, e5, e6⟩ := i3 e he
  exact ⟨b, e1, rb, D, n, e4, e5, e6⟩

theorem Inv.start (w : World) (S : Nat → ByteArray) (m : Nat) (ρ : Rel) (f : Nat → Nat) : Inv w (((w.alloc (.map #[] 0)).alloc (.map #[] 0)).alloc (.cells #[.map (some w.heap.size), .map (some (w.heap.size + 1))] 35)) S m ρ 0 [] f :=
  ⟨cell_of_block (heap_new _ _ _ (by simp)) (i := 0) rfl, ((World.ownsMap_made w _ _ _).alloc _).alloc _, fun e he => by simp at he, fun P => rfl, below_step (below_step (below_new _ _) (below_new _ _)) (below_new _ _)⟩
end Go.Proofs.Qxb6626881a
