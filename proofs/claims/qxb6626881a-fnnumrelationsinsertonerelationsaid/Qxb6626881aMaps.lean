/-
  A schema in memory, and how many relations it has: NumRelations.
-/
import Derived.Test.Qxb6626881aRows
import Derived.Test.Qxb6626881aPlain
import Derived.WalkKit
import Derived.ProofKit
import Derived.OpenShut
import Derived.Handy
import Derived.BigQuiet
import Derived.WalkLawsBesides
import Derived.WalkSpells
import Derived.Maps.RangeWalk
import Derived.Maps.OwnSet
namespace Go.Proofs.Qxb6626881a
open Go.ChangeShapes Go.WideShapes Go.ChangeAt Go.RowKit Go.Maps

theorem keyLaw : Keyed Try.prog 9 := string_keyed Try.underlying9

/-- How a pointer to a type reads: as the number of its block. -/
def rTok : Value → Option (DataW Nat × List MemPlace)
  | .pointer (some ⟨b, 0, none⟩) => some (.held b, [])
  | _ => none
/-- Of a relation nothing is read. -/
def rAny (_ : Value) : Option (DataW Nat × List MemPlace) := some (.nil, [])

theorem rTok_inv (v : Value) (y : DataW Nat × List MemPlace) (h : rTok v = some y) : ∃ c : Nat, v = .pointer (some ⟨c, 0, none⟩) := by
  unfold rTok at h
  split at h
  · exact ⟨_, rfl⟩
  · cases h
theorem rTok_held {c : Nat} {y : DataW Nat × List MemPlace} (h : rTok (.pointer (some ⟨c, 0, none⟩)) = some y) : y.1 = .held c := by
  simp [rTok] at h
  rw [← h]
theorem key_string_inv (key : Value) (kl : Lit) (h : keyOf Try.prog 9 key = some kl) : ∃ s : ByteArray, key = .string s := by
  cases key <;> simp [keyOf, Try.underlying9, mapKey] at h
  exact ⟨_, rfl⟩

/-! ### sums over a map's entries -/
def tokOf (f : Nat → Nat) : DataW Nat → Nat
  | .held b => f b
  | _ => 0
def ents : DataW Nat → List (Lit × DataW Nat)
  | .map es => es
  | _ => []
def sumE (f : Nat → Nat) (p : Lit → Bool) : List (Lit × DataW Nat) → Nat
  | [] => 0
  | e :: r => (if p e.1 = true then tokOf f e.2 else 0) + sumE f p r

theorem sumE_congr (f f' : Nat → Nat) (p p' : Lit → Bool) : ∀ es : List (Lit × DataW Nat), (∀ e ∈ es, tokOf f e.2 = tokOf f' e.2) → (∀ e ∈ es, p e.1 = p' e.1) → sumE f p es = sumE f' p' es
  | [], _, _ => rfl
  | e :: r, h, h' => by
    unfold sumE
    rw [h e (by simp), h' e (by simp), sumE_congr f f' p p' r (fun x hx => h x (by simp [hx])) (fun x hx => h' x (by simp [hx]))]
theorem sumE_insert (f : Nat → Nat) (p : Lit → Bool) (x : Lit × DataW Nat) : ∀ l : List (Lit × DataW Nat), sumE f p (DataW.insert x l) = (if p x.1 = true then tokOf f x.2 else 0) + sumE f p l
  | [] => by simp [DataW.insert, sumE]
  | y :: r => by
    unfold DataW.insert
    split
    · rfl
    · simp only [sumE, sumE_insert f p x r]; omega
theorem sumE_filter (f : Nat → Nat) (p g : Lit → Bool) : ∀ l : List (Lit × DataW Nat), sumE f p (l.filter (fun e => g e.1)) = sumE f (fun z => p z && g z) l
  | [] => rfl
  | y :: r => by
    cases hg : g y.1
    · simp [hg, sumE, sumE_filter f p g r]
    · simp [hg, sumE, sumE_filter f p g r]
/-- Behind a put. -/
theorem sumE_put (f : Nat → Nat) (p : Lit → Bool) (kl : Lit) (b : Nat) (es : List (Lit × DataW Nat)) :
    sumE f p (ents ((DataW.map es).put kl (.held b))) = (if p kl = true then f b else 0) + sumE f (fun z => p z && !z.sameKey kl) es := by
  show sumE f p (DataW.insert (kl, .held b) (es.filter fun q => !q.1.sameKey kl)) = _
  rw [sumE_insert, sumE_filter f p (fun z => !z.sameKey kl)]
  rfl
theorem mem_put {kl : Lit} {d : DataW Nat} {es : List (Lit × DataW Nat)} {e : Lit × DataW Nat} (h : e ∈ ents ((DataW.map es).put kl d)) : e = (kl, d) ∨ e ∈ es := by
  have h' : e ∈ DataW.insert (kl, d) (es.filter fun q => !q.1.sameKey kl) := h
  have : ∀ (x : Lit × DataW Nat) (l : List (Lit × DataW Nat)), e ∈ DataW.insert x l → e = x ∨ e ∈ l := by
    intro x l
    induction l with
    | nil => intro h; simp [DataW.insert] at h; exact .inl h
    | cons y r ih =>
      intro h
      unfold DataW.insert at h
      split at h
      · simpa using h
      · rcases List.mem_cons.1 h with h1 | h1
        · exact .inr (by simp [h1])
        · rcases ih h1 with h2 | h2
          · exact .inl h2
          · exact .inr (by simp [h2])
  rcases this _ _ h' with h1 | h1
  · exact .inl h1
  · exact .inr (List.mem_filter.1 h1).1

/-- One more key is done. -/
theorem sumE_strike (f : Nat → Nat) (left : Lit → Bool) (kl : Lit) (hl : left kl = true) (c : Nat) : ∀ es : List (Lit × DataW Nat), es.Pairwise (fun p q => p.1 ≠ q.1) → (kl, DataW.held c) ∈ es → (∀ e ∈ es, WideAt.IsKeyLit e.1) →
    sumE f (fun z => !(left z && !z.sameKey kl)) es = sumE f (fun z => !left z) es + f c
  | [], _, h, _ => by simp at h
  | e :: r, hp, hm, hk => by
    obtain ⟨h1, h2⟩ := List.pairwise_cons.1 hp
    unfold sumE
    rcases List.mem_cons.1 hm with he | hr
    · have hs : kl.sameKey kl = true := WideAt.sameKey_self (by have := hk e (by simp); rw [← he] at this; exact this)
      rw [← he]
      have hrest : sumE f (fun z => !(left z && !z.sameKey kl)) r = sumE f (fun z => !left z) r := sumE_congr _ _ _ _ r (fun _ _ => rfl) (fun x hx => by
        have hne : x.1 ≠ kl := fun e' => h1 x hx (by rw [← he, e'])
        rw [sameKey_ne hne]
        cases left x.1 <;> rfl)
      rw [hrest]
      simp [hl, hs, tokOf]
      omega
    · have hne : e.1 ≠ kl := h1 (kl, .held c) hr
      rw [sumE_strike f left kl hl c r h2 hr (fun x hx => hk x (by simp [hx])), sameKey_ne hne]
      cases left e.1 <;> simp <;> omega

theorem mem_of_at {es : List (Lit × DataW Nat)} {kl : Lit} {c : Nat} (h : ∀ zd, (DataW.map es).atKey kl zd = .held c) : (kl, DataW.held c) ∈ es := by
  have h1 := h .nil
  unfold DataW.atKey at h1
  simp only at h1
  cases hf : es.find? (fun p => p.1.sameKey kl) with
  | none => rw [hf] at h1; cases h1
  | some p =>
    rw [hf] at h1
    have hm := List.mem_of_find?_eq_some hf
    have hk := List.find?_some hf
    have e1 : p.1 = kl := WideAt.sameKey_eq hk
    have e2 : p.2 = .held c := h1
    rw [← e1, ← e2]
    exact hm

/-! ### a type, a schema -/
/-- At block b lies a type that has d relations. -/
def TdAt (w : World) (b d : Nat) : Prop := ∃ rb D n, w.cell? ⟨b, 2, none⟩ = some (.map (some rb)) ∧ w.ownsMap Try.prog 9 rAny rb n D ∧ Maps.size D = d
/-- At block s lies a schema of N relations in all. -/
def SchemaAt (w : World) (s N : Nat) : Prop :=
  ∃ t n es f, w.cell? ⟨s, 0, none⟩ = some (.map (some t)) ∧ w.ownsMap Try.prog 9 rTok t n (.map es) ∧ (∀ e ∈ es, ∃ b, e.2 = .held b ∧ TdAt w b (f b)) ∧ sumE f (fun _ => true) es = N

theorem sumE_le (f : Nat → Nat) (p : Lit → Bool) : ∀ es, sumE f p es ≤ sumE f (fun _ => true) es
  | [] => Nat.le_refl _
  | e :: r => by
    have := sumE_le f p r
    unfold sumE
    cases p e.1 <;> simp <;> omega

theorem sumE_none (f : Nat → Nat) (es0 : List (Lit × DataW Nat)) : ∀ es : List (Lit × DataW Nat), (∀ e ∈ es, WideAt.IsKeyLit e.1) → (∀ e ∈ es, e ∈ es0) → sumE f (fun z => !Maps.has (DataW.map es0) z) es = 0
  | [], _, _ => rfl
  | e :: r, hk, hm => by
    unfold sumE
    rw [sumE_none f es0 r (fun x hx => hk x (by simp [hx])) (fun x hx => hm x (by simp [hx]))]
    have : Maps.has (DataW.map es0) e.1 = true := List.any_eq_true.2 ⟨e, hm e (by simp), WideAt.sameKey_self (hk e (by simp))⟩
    simp [this]

def NumPost (w : World) (N : Nat) (e : Ending) (w' : World) : Prop := e = .returned (.int .i64 (N : Int)) ∧ Below w.heap.size w w'

theorem ownsMap_on {w W : World} {R : Value → Option (DataW Nat × List MemPlace)} {b n : Nat} {D : DataW Nat} (h : w.ownsMap Try.prog 9 R b n D) (hb : Below w.heap.size w W) : W.ownsMap Try.prog 9 R b n D := by
  have hlt := h.lt
  obtain ⟨es, clock, h1, h2⟩ := h
  exact ⟨es, clock, (hb.block b hlt).trans h1, h2⟩
theorem cell_on {w W : World} {b i : Nat} {v : Value} (c : w.cell? ⟨b, i, none⟩ = some v) (hb : Below w.heap.size w W) : W.cell? ⟨b, i, none⟩ = some v := (hb.cell (p := ⟨b, i, none⟩) (block_lt_of_cell c)).trans c
theorem TdAt.later {w W : World} {b d : Nat} (h : TdAt w b d) (hb : Below w.heap.size w W) : TdAt W b d := by
  obtain ⟨rb, D, n, h1, h2, h3⟩ := h
  exact ⟨rb, D, n, cell_on h1 hb, ownsMap_on h2 hb, h3⟩

set_option maxRecDepth 100000 in
theorem numRelations (s N : Nat) (w : World) (hN : N ≤ 1000000000) (h : SchemaAt w s N) : Calls Try.prog 8 #[.pointer (some ⟨s, 0, none⟩)] w (NumPost w N) := by
  obtain ⟨t, n, es, f, c0, hown, htd, hsum⟩ := h
  have HTD : Hid (∀ e ∈ es, ∃ b, e.2 = .held b ∧ TdAt w b (f b)) := htd
  have HS : Hid (sumE f (fun _ => true) es = N) := hsum
  obtain ⟨es', he', hap, hkeys⟩ := hown.entries keyLaw
  cases he'
  have HP : Hid (es.Pairwise (fun p q => p.1 ≠ q.1)) := hap
  have HK : Hid (∀ p ∈ es, WideAt.IsKeyLit p.1) := hkeys
  clear htd hsum hap hkeys
  go_enter Try.func8, Try.ntmps8
  go_wp2_with (first
    | (at_range; refine wpList_range_own _ rfl _ 32 rfl 9 36 keyLaw Try.underlying32 _ t n _ rfl hown ?_; intro w0 hrg0 hg0 hs0)
    | go_in)
  go_frame
  go_loopw [3] (fun v wr => ∃ (left : Lit → Bool) (cnt : Nat), wr.ranges Try.prog 9 rTok t w.heap.size n (.map es) left cnt ∧ v = .int .i64 (sumE f (fun z => !left z) es : Nat) ∧ Below w.heap.size w wr)
    (fun _ wr => wr.rangeLeft t w.heap.size)
  case atStart =>
    refine ⟨_, _, hrg0, ?_, ⟨hg0.os, hg0.tape, hg0.output, hg0.size, fun k hk => hg0.block k hk (by simp)⟩⟩
    rw [sumE_none f es es HK.out (fun _ h => h)]
    rfl
  case round =>
    obtain ⟨left, cnt, hrg, rfl, hB⟩ := hrel
    go_wp2_with (first
      | (at_next; refine wpList_next_ranges _ rfl _ rfl 9 keyLaw rTok Value.string (fun c : Nat => Value.pointer (some ⟨c, 0, none⟩)) key_string_inv rTok_inv t w.heap.size n _ _ _ rfl hrg ?_ ?_)
      | go_in)
    · intro _ hl0
      have e1 : sumE f (fun z => !left z) es = N := by
        rw [← HS.out]
        exact sumE_congr _ _ _ _ es (fun _ _ => rfl) (fun e _ => by rw [hl0]; rfl)
      rw [e1]
      go_wp2
      go_ret
      exact ⟨rfl, hB⟩
    · intro x c kl yd yp w1 cnt1 hkx hlx hy hat hrg1 hlt hg1 hs1 hen
      have hm : (kl, DataW.held c) ∈ es := mem_of_at (fun zd => (hat zd).trans (rTok_held (y := (yd, yp)) hy))
      have hB1 : Below w.heap.size w w1 := hB.grown hg1 hB.size (fun k e => by cases e; exact Nat.le_refl _)
      obtain ⟨b', hb', htd⟩ := HTD.out _ hm
      cases hb'
      obtain ⟨rb, Dr, nr, cr, hor, hsz⟩ := htd.later hB1
      have hstep := sumE_strike f left kl hlx c es HP.out hm HK.out
      have hle := sumE_le f (fun z => !(left z && !z.sameKey kl)) es
      rw [HS.out, hstep] at hle
      have HST : Hid (sumE f (fun z => !(left z && !z.sameKey kl)) es = sumE f (fun z => !left z) es + f c) := hstep
      have hlen := fun ty => hor.len Try.underlying37 ty
      rw [hsz] at hlen
      have HR1 := hrg1
      have HRH : Hid (w1.ranges Try.prog 9 rTok t w.heap.size n (DataW.map es) (fun z => left z && !z.sameKey kl) cnt1) := hrg1
      have HB1 : Hid (Below w.heap.size w w1) := hB1
      have HLT : Hid (cnt1 < cnt) := hlt
      have HRG : Hid (wr.ranges Try.prog 9 rTok t w.heap.size n (DataW.map es) left cnt) := hrg
      clear HR1 hrg1 hB1 hlt hrg hB hstep hsz hor htd hm hat hy hkx hlx hg1 hs1
      generalize sumE f (fun z => !left z) es = acc at *
      go_wp2
      go_roundw
      case rel => exact ⟨_, cnt1, HRH.out, by rw [HST.out]; go_num, HB1.out⟩
      case measure => rw [HRH.out.left_eq, HRG.out.left_eq]; exact HLT.out
end Go.Proofs.Qxb6626881a
