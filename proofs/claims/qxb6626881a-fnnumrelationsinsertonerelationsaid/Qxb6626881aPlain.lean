/-
  Plain facts: how many, and how much, behind distinct names. No Go in sight.
-/
namespace Go.Proofs.Qxb6626881a

set_option linter.unusedSectionVars false
section
variable {α : Type} [DecidableEq α]

/-- Over the first k names: of each name that meets p, what its LAST bearer weighs; all added up. -/
def tp (N : Nat → α) (d : Nat → Nat) : Nat → (α → Bool) → Nat
  | 0, _ => 0
  | k + 1, p => tp N d k (fun x => p x && decide (x ≠ N k)) + if p (N k) = true then d k else 0

theorem tp_congr (N N' : Nat → α) (d d' : Nat → Nat) : ∀ (k : Nat) (p p' : α → Bool), (∀ x, p x = p' x) → (∀ i, i < k → N i = N' i) → (∀ i, i < k → d i = d' i) → tp N d k p = tp N' d' k p'
  | 0, _, _, _, _, _ => rfl
  | k + 1, p, p', h, hN, hd => by
    unfold tp
    rw [hN k (by omega), hd k (by omega), h (N' k), tp_congr N N' d d' k (fun x => p x && decide (x ≠ N' k)) (fun x => p' x && decide (x ≠ N' k)) (fun x => by rw [h x]) (fun i hi => hN i (by omega)) (fun i hi => hd i (by omega))]

/-- x is among the first k names. -/
def among (N : Nat → α) (k : Nat) (x : α) : Bool := decide (∃ i, i < k ∧ N i = x)

theorem among_succ (N : Nat → α) (k : Nat) (x : α) : among N (k + 1) x = (among N k x || decide (N k = x)) := by
  unfold among
  rw [Bool.eq_iff_iff]
  simp only [Bool.or_eq_true, decide_eq_true_eq]
  constructor
  · rintro ⟨i, hi, h⟩
    by_cases e : i = k
    · subst e; exact .inr h
    · exact .inl ⟨i, by omega, h⟩
  · rintro (⟨i, hi, h⟩ | h)
    · exact ⟨i, by omega, h⟩
    · exact ⟨k, by omega, h⟩

/-- How many different names there are among the first k that meet p. -/
abbrev ds (N : Nat → α) (k : Nat) (p : α → Bool) : Nat := tp N (fun _ => 1) k p

/-- One value struck. -/
theorem ds_strike (N : Nat → α) (v : α) : ∀ (k : Nat) (p : α → Bool), ds N k p = ds N k (fun x => p x && decide (x ≠ v)) + if (p v && among N k v) = true then 1 else 0
  | 0, p => by simp [ds, tp, among]
  | k + 1, p => by
    unfold ds tp
    by_cases e : N k = v
    · subst e
      rw [tp_congr N N _ _ k (fun x => (p x && decide (x ≠ N k)) && decide (x ≠ N k)) (fun x => p x && decide (x ≠ N k)) (fun x => by cases p x <;> cases decide (x ≠ N k) <;> rfl) (fun _ _ => rfl) (fun _ _ => rfl), among_succ]
      simp
    · have ih := ds_strike N v k (fun x => p x && decide (x ≠ N k))
      unfold ds at ih
      rw [ih, among_succ]
      rw [tp_congr N N _ _ k (fun x => (p x && decide (x ≠ N k)) && decide (x ≠ v)) (fun x => (p x && decide (x ≠ v)) && decide (x ≠ N k)) (fun x => by cases p x <;> cases decide (x ≠ N k) <;> cases decide (x ≠ v) <;> rfl) (fun _ _ => rfl) (fun _ _ => rfl)]
      have e' : v ≠ N k := fun h => e h.symm
      simp [e, e']
      omega

/-- One name more: counted where it is new. -/
theorem ds_succ (N : Nat → α) (k : Nat) (p : α → Bool) : ds N (k + 1) p = ds N k p + if (p (N k) && !among N k (N k)) = true then 1 else 0 := by
  have h := ds_strike N (N k) k p
  show tp N (fun _ => 1) k (fun x => p x && decide (x ≠ N k)) + (if p (N k) = true then 1 else 0) = _
  have h' : ds N k (fun x => p x && decide (x ≠ N k)) = tp N (fun _ => 1) k (fun x => p x && decide (x ≠ N k)) := rfl
  rw [← h']
  cases hp : p (N k) <;> cases ha : among N k (N k) <;> simp [hp, ha] at h ⊢ <;> omega

theorem ds_le (N : Nat → α) : ∀ (k : Nat) (p : α → Bool), ds N k p ≤ k
  | 0, _ => Nat.le_refl _
  | k + 1, p => by
    rw [ds_succ]
    have := ds_le N k p
    split <;> omega

/-- A value put in at place q. -/
def ins (f : Nat → α) (q : Nat) (x : α) (j : Nat) : α := if j < q then f j else if j = q then x else f (j - 1)

theorem ds_ins (f : Nat → α) (q : Nat) (x : α) : ∀ (m : Nat) (p : α → Bool), ds (ins f q x) (q + m + 1) p = ds f (q + m) (fun z => p z && decide (z ≠ x)) + if p x = true then 1 else 0
  | 0, p => by
    show tp (ins f q x) (fun _ => 1) q (fun z => p z && decide (z ≠ ins f q x q)) + (if p (ins f q x q) = true then 1 else 0) = _
    have e : ins f q x q = x := by simp [ins]
    rw [e, tp_congr (ins f q x) f _ (fun _ => 1) q _ (fun z => p z && decide (z ≠ x)) (fun _ => rfl) (fun i hi => by simp [ins, hi]) (fun _ _ => rfl)]
    rfl
  | m + 1, p => by
    have ih := ds_ins f q x m (fun z => p z && decide (z ≠ f (q + m)))
    have e : ins f q x (q + m + 1) = f (q + m) := by
      have h1 : ¬ (q + m + 1 < q) := by omega
      have h2 : ¬ (q + m + 1 = q) := by omega
      simp [ins, h1, h2]
    show tp (ins f q x) (fun _ => 1) (q + m + 1) (fun z => p z && decide (z ≠ ins f q x (q + m + 1))) + (if p (ins f q x (q + m + 1)) = true then 1 else 0) = _
    rw [e]
    unfold ds at ih
    rw [ih]
    show _ = tp f (fun _ => 1) (q + m) (fun z => (p z && decide (z ≠ x)) && decide (z ≠ f (q + m))) + (if (p (f (q + m)) && decide (f (q + m) ≠ x)) = true then 1 else 0) + (if p x = true then 1 else 0)
    rw [tp_congr f f _ _ (q + m) (fun z => (p z && decide (z ≠ f (q + m))) && decide (z ≠ x)) (fun z => (p z && decide (z ≠ x)) && decide (z ≠ f (q + m))) (fun z => by cases p z <;> cases decide (z ≠ f (q + m)) <;> cases decide (z ≠ x) <;> rfl) (fun _ _ => rfl) (fun _ _ => rfl)]
    by_cases h : x = f (q + m)
    · rw [← h]
    · have h' : f (q + m) ≠ x := fun e => h e.symm
      cases p x <;> cases p (f (q + m)) <;> simp [h, h']

/-- A name put into a list of k names: one more where it is new. -/
theorem ds_inserted (f : Nat → α) (q k : Nat) (x : α) (hq : q ≤ k) : ds (ins f q x) (k + 1) (fun _ => true) = ds f k (fun _ => true) + if among f k x = true then 0 else 1 := by
  obtain ⟨m, rfl⟩ : ∃ m, k = q + m := ⟨k - q, by omega⟩
  have h1 := ds_ins f q x m (fun _ => true)
  have h2 := ds_strike f x (q + m) (fun _ => true)
  rw [h1]
  simp at h1 h2 ⊢
  rw [h2]
  split <;> simp

/-- No later one of the first n bears the name of i. -/
def lastB (N : Nat → α) (n i : Nat) : Bool := decide (∀ j, j < n → i < j → N j ≠ N i)

/-- Over the first k: what each one weighs that is the last of its name among n. -/
def ms (N : Nat → α) (d : Nat → Nat) (n : Nat) (p : α → Bool) : Nat → Nat
  | 0 => 0
  | k + 1 => ms N d n p k + if (p (N k) && lastB N n k) = true then d k else 0

theorem ms_congr (N N' : Nat → α) (d d' : Nat → Nat) (n n' : Nat) (p p' : α → Bool) : ∀ k, (∀ i, i < k → (p (N i) && lastB N n i) = (p' (N' i) && lastB N' n' i)) → (∀ i, i < k → d i = d' i) → ms N d n p k = ms N' d' n' p' k
  | 0, _, _ => rfl
  | k + 1, h, hd => by
    unfold ms
    rw [ms_congr N N' d d' n n' p p' k (fun i hi => h i (by omega)) (fun i hi => hd i (by omega)), h k (by omega), hd k (by omega)]

theorem lastB_succ (N : Nat → α) (n i : Nat) (hi : i < n) : lastB N (n + 1) i = (lastB N n i && decide (N i ≠ N n)) := by
  unfold lastB
  rw [Bool.eq_iff_iff]
  simp only [Bool.and_eq_true, decide_eq_true_eq]
  constructor
  · intro h
    exact ⟨fun j h1 h2 => h j (by omega) h2, fun e => h n (by omega) hi e.symm⟩
  · rintro ⟨h1, h2⟩ j h3 h4 e
    by_cases hj : j = n
    · subst hj; exact h2 e.symm
    · exact h1 j (by omega) h4 e

/-- The sum behind distinct names is the sum over the last bearers. -/
theorem tp_eq_ms (N : Nat → α) (d : Nat → Nat) : ∀ (n : Nat) (p : α → Bool), tp N d n p = ms N d n p n
  | 0, _ => rfl
  | n + 1, p => by
    unfold tp ms
    rw [tp_eq_ms N d n]
    have e1 : ms N d (n + 1) p n = ms N d n (fun x => p x && decide (x ≠ N n)) n := ms_congr _ _ _ _ _ _ _ _ n (fun i hi => by rw [lastB_succ N n i hi]; cases p (N i) <;> cases lastB N n i <;> cases decide (N i ≠ N n) <;> rfl) (fun _ _ => rfl)
    have e2 : lastB N (n + 1) n = true := decide_eq_true (fun j h1 h2 => by omega)
    rw [e1, e2, Bool.and_true]

/-- The sum over an interval, cut in two. -/
theorem ms_split (N : Nat → α) (d : Nat → Nat) (n : Nat) (p : α → Bool) (k : Nat) : ∀ m, ms N d n p (k + m) = ms N d n p k + ms (fun i => N (k + i)) (fun i => d (k + i)) (n - k) p m ∨ n < k
  | 0 => .inl (by simp [ms])
  | m + 1 => by
    rcases Nat.lt_or_ge n k with h | h
    · exact .inr h
    · left
      rcases ms_split N d n p k m with ih | ih
      · show ms N d n p (k + m) + (if (p (N (k + m)) && lastB N n (k + m)) = true then d (k + m) else 0) = _ + (_ + (if (p (N (k + m)) && lastB (fun i => N (k + i)) (n - k) m) = true then d (k + m) else 0))
        rw [ih]
        have e : lastB N n (k + m) = lastB (fun i => N (k + i)) (n - k) m := by
          unfold lastB
          rw [Bool.eq_iff_iff]
          simp only [decide_eq_true_eq]
          constructor
          · intro h1 j h2 h3
            exact h1 (k + j) (by omega) (by omega)
          · intro h1 j h2 h3
            have := h1 (j - k) (by omega) (by omega)
            rwa [show k + (j - k) = j from by omega] at this
        rw [e]
        omega
      · omega

/-- THE CUT: where no name ahead of k stands behind it. -/
theorem tp_cut (N : Nat → α) (d : Nat → Nat) (k n : Nat) (hk : k ≤ n) (h : ∀ i j, i < k → k ≤ j → j < n → N i ≠ N j) :
    tp N d n (fun _ => true) = tp N d k (fun _ => true) + tp (fun i => N (k + i)) (fun i => d (k + i)) (n - k) (fun _ => true) := by
  rw [tp_eq_ms, tp_eq_ms, tp_eq_ms]
  rcases ms_split N d n (fun _ => true) k (n - k) with h1 | h1
  · rw [show k + (n - k) = n from by omega] at h1
    rw [h1]
    congr 1
    refine ms_congr _ _ _ _ _ _ _ _ k (fun i hi => ?_) (fun _ _ => rfl)
    show (true && lastB N n i) = (true && lastB N k i)
    rw [Bool.true_and, Bool.true_and]
    unfold lastB
    rw [Bool.eq_iff_iff]
    simp only [decide_eq_true_eq]
    constructor
    · intro h2 j h3 h4
      exact h2 j (by omega) h4
    · intro h2 j h3 h4
      rcases Nat.lt_or_ge j k with h5 | h5
      · exact h2 j h5 h4
      · exact fun e => h i j hi h5 h3 e.symm
  · omega

/-- One weight turned. -/
theorem ms_turn (N : Nat → α) (d d' : Nat → Nat) (n i : Nat) (hd : ∀ j, j ≠ i → d' j = d j) (x : Nat) (hx : d' i = d i + x) : ∀ k, ms N d' n (fun _ => true) k = ms N d n (fun _ => true) k + if i < k ∧ lastB N n i = true then x else 0
  | 0 => by simp [ms]
  | k + 1 => by
    unfold ms
    rw [ms_turn N d d' n i hd x hx k]
    by_cases e : k = i
    · subst e
      rw [hx]
      cases lastB N n k <;> simp
      omega
    · rw [hd k e]
      have e1 : (i < k + 1 ∧ lastB N n i = true) ↔ (i < k ∧ lastB N n i = true) := by constructor <;> (rintro ⟨h1, h2⟩; exact ⟨by omega, h2⟩)
      simp only [e1]
      omega

theorem tp_le (N : Nat → α) (d : Nat → Nat) (B : Nat) : ∀ (n : Nat) (p : α → Bool), (∀ i, i < n → d i ≤ B) → tp N d n p ≤ n * B
  | 0, _, _ => by simp [tp]
  | n + 1, p, h => by
    unfold tp
    have h1 := tp_le N d B n (fun x => p x && decide (x ≠ N n)) (fun i hi => h i (by omega))
    have h2 := h n (by omega)
    rw [Nat.succ_mul]
    split <;> omega
end
end Go.Proofs.Qxb6626881a
