/-
  The law's own helpers: zzDistinct, zzLastOccurrence, zzContains, zzRelsOf, zzModelCount.
-/
import Derived.Test.Qxb6626881aMaps
namespace Go.Proofs.Qxb6626881a
open Go.ChangeShapes Go.WideShapes Go.ChangeAt Go.RowKit Go.Maps

/-- The slice value v has n elements; the i-th is f i. -/
def Row (w : World) (v : Value) (n : Nat) (f : Nat → Value) : Prop :=
  ∃ a cap, v = .slice a n cap ∧ (0 < n → ∃ b off, a = some ⟨b, off, none⟩ ∧ ∀ i, i < n → w.cell? ⟨b, off + i, none⟩ = some (f i))

theorem Row.later {w W : World} {v : Value} {n : Nat} {f : Nat → Value} (h : Row w v n f) (hb : Below w.heap.size w W) : Row W v n f := by
  obtain ⟨a, cap, hv, h⟩ := h
  refine ⟨a, cap, hv, fun hn => ?_⟩
  obtain ⟨b, off, ha, hc⟩ := h hn
  have hlt : b < w.heap.size := block_lt_of_cell (hc 0 hn)
  exact ⟨b, off, ha, fun i hi' => (hb.cell (p := ⟨b, off + i, none⟩) hlt).trans (hc i hi')⟩
theorem Row.drewN {w : World} {v : Value} {n : Nat} {f : Nat → Value} (h : Row w v n f) (k : Nat) : Row (w.drewN k) v n f := h

theorem bytes_yes {a b : ByteArray} (h : a = b) : (a.toList == b.toList) = true := by rw [h]; simp
theorem bytes_ne {a b : ByteArray} (h : a ≠ b) : (a.toList == b.toList) = false := by
  rw [Bool.eq_false_iff]
  intro e
  apply h
  have e1 := eq_of_beq e
  rw [ByteArray.toList_eq, ByteArray.toList_eq] at e1
  exact bytes_inj e1

theorem drew2 (w : World) (a b : Nat) : ∃ k, (w.drewN a).drewN b = w.drewN k := ⟨_, World.drewN_drewN w a b⟩

def BoolPost (w : World) (b : Bool) (e : Ending) (w' : World) : Prop := e = .returned (.bool b) ∧ ∃ k, w' = w.drewN k
def IntPost (w : World) (n : Nat) (e : Ending) (w' : World) : Prop := e = .returned (.int .i64 (n : Int)) ∧ ∃ k, w' = w.drewN k

theorem lastOccurrence (v : Value) (n i : Nat) (S : Nat → ByteArray) (w : World) (hn : n ≤ 1000000) (hi : i < n) (h : Row w v n (fun j => .string (S j))) :
    Calls Try.prog 11 #[v, .int .i64 (i : Int)] w (BoolPost w (lastB S n i)) := by
  obtain ⟨a, ca, rfl, h⟩ := h
  obtain ⟨b1, o1, rfl, hc⟩ := h (by omega)
  have g1 := hc i hi
  have HC : Hid (∀ j, j < n → w.cell? ⟨b1, o1 + j, none⟩ = some (.string (S j))) := hc
  clear h hc
  have hi' : (i : Int) < (n : Int) := by omega
  go_enter Try.func11, Try.ntmps11
  go_wp2
  go_loopw [5] (fun c wr => ∃ k : Nat, k ≤ n ∧ i < k ∧ c = .int .i64 k ∧ Hid (∀ j, i < j → j < k → S j ≠ S i) ∧ ∃ m, wr = w.drewN m) (fun c _ => n - (intOf c).toNat)
  case atStart => exact ⟨i + 1, by omega, by omega, by go_num, fun j h1 h2 => by omega, 0, rfl⟩
  case round =>
    obtain ⟨k, hk, hik, rfl, HN, m, rfl⟩ := hrel
    by_cases hlt : k < n
    · have g2 := HC.out k hlt
      have hlt' : (k : Int) < (n : Int) := by omega
      by_cases e : S k = S i
      · have hb := bytes_yes e
        have HL : Hid (lastB S n i = false) := decide_eq_false (fun h => h k hlt hik e)
        clear e
        go_wp2
        go_quiet (fail)
        go_wp2
        go_ret
        exact ⟨by rw [HL.out]; rfl, by first | exact ⟨_, rfl⟩ | exact drew2 _ _ _⟩
      · have hb := bytes_ne e
        have HE : Hid (S k ≠ S i) := e
        clear e
        go_wp2
        go_quiet (fail)
        go_wp2
        refine ⟨⟨k + 1, by omega, by omega, by go_num, fun j h1 h2 => ?_, _, rfl⟩, by simp [intOf]; omega⟩
        by_cases hj : j = k
        · subst hj; exact HE.out
        · exact HN.out j h1 (by omega)
    · have HL : Hid (lastB S n i = true) := decide_eq_true (fun j h1 h2 => HN.out j h2 (by omega))
      go_wp2
      go_ret
      exact ⟨by rw [HL.out]; rfl, by first | exact ⟨_, rfl⟩ | exact drew2 _ _ _⟩

theorem contains (v : Value) (n : Nat) (S : Nat → ByteArray) (x : ByteArray) (w : World) (hn : n ≤ 1000000) (h : Row w v n (fun j => .string (S j))) :
    Calls Try.prog 12 #[v, .string x] w (BoolPost w (among S n x)) := by
  obtain ⟨a, ca, rfl, h⟩ := h
  go_enter Try.func12, Try.ntmps12
  go_wp2
  go_loopw [5] (fun c wr => ∃ k : Nat, k ≤ n ∧ c = .int .i64 k ∧ Hid (∀ j, j < k → S j ≠ x) ∧ ∃ m, wr = w.drewN m) (fun c _ => n - (intOf c).toNat)
  case atStart => exact ⟨0, by omega, rfl, fun j h1 => by omega, 0, rfl⟩
  case round =>
    obtain ⟨k, hk, rfl, HN, m, rfl⟩ := hrel
    by_cases hlt : k < n
    · obtain ⟨b1, o1, rfl, hc⟩ := h (by omega)
      have g2 := hc k hlt
      clear hc h
      have hlt' : (k : Int) < (n : Int) := by omega
      by_cases e : S k = x
      · have hb := bytes_yes e
        have HL : Hid (among S n x = true) := decide_eq_true ⟨k, hlt, e⟩
        clear e
        go_wp2
        go_ret
        exact ⟨by rw [HL.out]; rfl, by first | exact ⟨_, rfl⟩ | exact drew2 _ _ _⟩
      · have hb := bytes_ne e
        have HE : Hid (S k ≠ x) := e
        clear e
        go_wp2
        refine ⟨⟨k + 1, by omega, by go_num, fun j h1 => ?_, _, rfl⟩, by simp [intOf]; omega⟩
        by_cases hj : j = k
        · subst hj; exact HE.out
        · exact HN.out j (by omega)
    · have HL : Hid (among S n x = false) := decide_eq_false (fun ⟨j, h1, h2⟩ => HN.out j (by omega) h2)
      clear h
      go_wp2
      go_ret
      exact ⟨by rw [HL.out]; rfl, by first | exact ⟨_, rfl⟩ | exact drew2 _ _ _⟩

set_option maxRecDepth 100000 in
theorem distinct (v : Value) (n : Nat) (S : Nat → ByteArray) (w : World) (hn : n ≤ 1000000) (h : Row w v n (fun j => .string (S j))) :
    Calls Try.prog 13 #[v] w (IntPost w (ds S n (fun _ => true))) := by
  obtain ⟨a, ca, rfl, h⟩ := h
  go_enter Try.func13, Try.ntmps13
  go_wp2
  go_loopw [3, 4] (fun t c wr => ∃ k : Nat, k ≤ n ∧ t = .int .i64 (ds S k (fun _ => true) : Nat) ∧ c = .int .i64 k ∧ ∃ m, wr = w.drewN m) (fun _ c _ => n - (intOf c).toNat)
  case atStart => exact ⟨0, by omega, rfl, rfl, 0, rfl⟩
  case round =>
    obtain ⟨k, hk, rfl, rfl, m, rfl⟩ := hrel
    by_cases hlt : k < n
    · obtain ⟨b1, o1, rfl, hc⟩ := h (by omega)
      have g1 := hc k hlt
      have HC : Hid (∀ j, j < n → w.cell? ⟨b1, o1 + j, none⟩ = some (.string (S j))) := hc
      clear hc h
      have hlt' : (k : Int) < (n : Int) := by omega
      have HD : Hid (ds S (k + 1) (fun _ => true) = ds S k (fun _ => true) + if (!among S k (S k)) = true then 1 else 0) := ds_succ S k (fun _ => true)
      have hle := ds_le S k (fun _ => true)
      generalize ds S k (fun _ => true) = acc at *
      go_wp2
      go_loopw [5, 6] (fun d c wr => ∃ j : Nat, j ≤ k ∧ d = .bool false ∧ c = .int .i64 j ∧ Hid (∀ i, i < j → S i ≠ S k) ∧ ∃ m, wr = w.drewN m) (fun _ c _ => k - (intOf c).toNat)
      case atStart => exact ⟨0, by omega, rfl, rfl, fun j h1 => by omega, m, rfl⟩
      case round =>
        obtain ⟨j, hj, rfl, rfl, HN, m2, rfl⟩ := hrel
        by_cases hlj : j < k
        · have g2 := HC.out j (by omega)
          have hlj' : (j : Int) < (k : Int) := by omega
          have hlj2 : (j : Int) < (n : Int) := by omega
          by_cases e : S j = S k
          · have hb := bytes_yes e
            have HL : Hid (among S k (S k) = true) := decide_eq_true ⟨j, hlj, e⟩
            clear e
            go_wp2
            go_quiet (fail)
            go_wp2
            exact ⟨⟨k + 1, by omega, by rw [HD.out, HL.out]; rfl, by go_num, by first | exact ⟨_, rfl⟩ | exact drew2 _ _ _⟩, by simp [intOf]; omega⟩
          · have hb := bytes_ne e
            have HE : Hid (S j ≠ S k) := e
            clear e
            go_wp2
            go_quiet (fail)
            go_wp2
            refine ⟨⟨j + 1, by omega, rfl, by go_num, fun i h1 => ?_, by first | exact ⟨_, rfl⟩ | exact drew2 _ _ _⟩, by simp [intOf]; omega⟩
            by_cases hi : i = j
            · subst hi; exact HE.out
            · exact HN.out i (by omega)
        · have HL : Hid (among S k (S k) = false) := decide_eq_false (fun ⟨i, h1, h2⟩ => HN.out i (by omega) h2)
          go_wp2
          exact ⟨⟨k + 1, by omega, by rw [HD.out, HL.out]; go_num, by go_num, by first | exact ⟨_, rfl⟩ | exact drew2 _ _ _⟩, by simp [intOf]; omega⟩
    · clear h
      have hkn : k = n := by omega
      subst hkn
      go_wp2
      go_ret
      exact ⟨rfl, _, rfl⟩

/-- A slice of slices of strings, by what it holds. -/
structure Rel where
  ra : Nat → Option Addr
  q : Nat → Nat
  rc : Nat → Nat
  Rn : Nat → Nat → ByteArray

abbrev Rel.val (ρ : Rel) (i : Nat) : Value := .slice (ρ.ra i) (ρ.q i) (ρ.rc i)

structure RelRow (w : World) (v : Value) (m : Nat) (ρ : Rel) : Prop where
  top : Row w v m (fun i => ρ.val i)
  each : ∀ i, i < m → Row w (ρ.val i) (ρ.q i) (fun j => .string (ρ.Rn i j))

theorem RelRow.later {w W : World} {v : Value} {m : Nat} {ρ : Rel} (h : RelRow w v m ρ) (hb : Below w.heap.size w W) : RelRow W v m ρ := ⟨h.top.later hb, fun i hi => (h.each i hi).later hb⟩
theorem RelRow.drewN {w : World} {v : Value} {m : Nat} {ρ : Rel} (h : RelRow w v m ρ) (k : Nat) : RelRow (w.drewN k) v m ρ := h.later ⟨rfl, rfl, rfl, Nat.le_refl _, fun _ _ => rfl⟩

/-- How many relations type i has. -/
def dc (m : Nat) (ρ : Rel) (i : Nat) : Nat := if i < m then ds (ρ.Rn i) (ρ.q i) (fun _ => true) else 0

theorem dc_le (m : Nat) (ρ : Rel) (hq : ∀ i, i < m → ρ.q i ≤ 5000) (i : Nat) : dc m ρ i ≤ 5000 := by
  unfold dc
  split
  · exact Nat.le_trans (ds_le _ _ _) (hq i (by assumption))
  · omega

def RelsPost (w : World) (m : Nat) (ρ : Rel) (i : Nat) (e : Ending) (w' : World) : Prop :=
  w' = w ∧ ∃ a q c S, e = .returned (.slice a q c) ∧ q ≤ 5000 ∧ Row w (.slice a q c) q (fun j => .string (S j)) ∧ ds S q (fun _ => true) = dc m ρ i

theorem relsOf (v : Value) (m i : Nat) (ρ : Rel) (w : World) (hm : m ≤ 1000000) (hi : i ≤ 1000000) (hq : ∀ i, i < m → ρ.q i ≤ 5000) (h : RelRow w v m ρ) :
    Calls Try.prog 14 #[v, .int .i64 (i : Int)] w (RelsPost w m ρ i) := by
  obtain ⟨⟨a, ca, rfl, h1⟩, h2⟩ := h
  by_cases hlt : i < m
  · obtain ⟨b1, o1, rfl, hc⟩ := h1 (by omega)
    have g1 := hc i hlt
    have HX : Hid (RelsPost w m ρ i (.returned (ρ.val i)) w) := ⟨rfl, ρ.ra i, ρ.q i, ρ.rc i, ρ.Rn i, rfl, hq i hlt, h2 i hlt, by unfold dc; rw [if_pos hlt]⟩
    have hlt' : (i : Int) < (m : Int) := by omega
    clear hc h1 h2 hq
    go_enter Try.func14, Try.ntmps14
    go_wp2
    go_ret
    exact HX.out
  · have HX : Hid (RelsPost w m ρ i (.returned (.slice none 0 0)) w) := ⟨rfl, none, 0, 0, fun _ => ByteArray.empty, rfl, by omega, ⟨none, 0, rfl, fun h => by omega⟩, by unfold dc; rw [if_neg hlt]; rfl⟩
    have hlt' : ¬ (i : Int) < (m : Int) := by omega
    clear h1 h2 hq
    go_enter Try.func14, Try.ntmps14
    go_wp2
    go_ret
    exact HX.out

theorem ms_le {α : Type} [DecidableEq α] (N : Nat → α) (d : Nat → Nat) (n B : Nat) (p : α → Bool) (hB : ∀ i, d i ≤ B) : ∀ k, ms N d n p k ≤ k * B
  | 0 => by simp [ms]
  | k + 1 => by
    have h1 := ms_le N d n B p hB k
    have h2 := hB k
    unfold ms
    rw [Nat.succ_mul]
    split <;> omega

theorem modelCount (vt vr : Value) (n m : Nat) (S : Nat → ByteArray) (ρ : Rel) (w : World) (hn : n ≤ 5000) (hm : m ≤ 5000) (hq : ∀ i, i < m → ρ.q i ≤ 5000) (ht : Row w vt n (fun j => .string (S j))) (hr : RelRow w vr m ρ) :
    Calls Try.prog 9 #[vt, vr] w (IntPost w (ms S (dc m ρ) n (fun _ => true) n)) := by
  have HT : Hid (Row w vt n (fun j => .string (S j))) := ht
  have HR : Hid (RelRow w vr m ρ) := hr
  have HQ : Hid (∀ i, i < m → ρ.q i ≤ 5000) := hq
  obtain ⟨a, ca, rfl, _⟩ := ht
  obtain ⟨⟨a2, ca2, rfl, _⟩, _⟩ := hr
  clear hq
  go_enter Try.func9, Try.ntmps9
  go_wp2
  go_loopw [5, 6] (fun t c wr => ∃ k : Nat, k ≤ n ∧ t = .int .i64 (ms S (dc m ρ) n (fun _ => true) k : Nat) ∧ c = .int .i64 k ∧ ∃ m, wr = w.drewN m) (fun _ c _ => n - (intOf c).toNat)
  case atStart => exact ⟨0, by omega, rfl, rfl, 0, rfl⟩
  case round =>
    obtain ⟨k, hk, rfl, rfl, m1, rfl⟩ := hrel
    by_cases hlt : k < n
    · have hlt' : (k : Int) < (n : Int) := by omega
      have HS : Hid (ms S (dc m ρ) n (fun _ => true) (k + 1) = ms S (dc m ρ) n (fun _ => true) k + if lastB S n k = true then dc m ρ k else 0) := by unfold Hid; rw [ms]; simp
      have h1 := ms_le S (dc m ρ) n 5000 (fun _ => true) (dc_le m ρ HQ.out) k
      have h2 := dc_le m ρ HQ.out k
      have h3 : ms S (dc m ρ) n (fun _ => true) k ≤ 25000000 := by omega
      clear h1
      generalize ms S (dc m ρ) n (fun _ => true) k = acc at *
      go_wp2_with fail
      refine (lastOccurrence _ n k S _ (by omega) hlt (HT.out.drewN m1)).mono ?_
      rintro e w1 ⟨rfl, m2, rfl⟩
      cases hL : lastB S n k with
      | false =>
        rw [hL] at HS
        clear hL
        go_wp2
        exact ⟨⟨k + 1, by omega, by rw [HS.out]; rfl, by go_num, by first | exact ⟨_, rfl⟩ | exact drew2 _ _ _⟩, by simp [intOf]; omega⟩
      | true =>
        rw [hL] at HS
        clear hL
        go_wp2_with fail
        refine (relsOf _ m k ρ _ (by omega) (by omega) HQ.out (HR.out.drewN (m1 + m2))).mono ?_
        rintro e w2 ⟨hw, ra, q, rc, S', rfl, hq, hrow, hds⟩
        subst hw
        go_wp2_with fail
        refine (distinct _ q S' _ (by omega) hrow).mono ?_
        rintro e w3 ⟨rfl, m3, rfl⟩
        rw [hds]
        clear hds hrow
        generalize dc m ρ k = dd at *
        go_wp2
        refine ⟨⟨k + 1, by omega, by rw [HS.out]; go_num, by go_num, ?_⟩, by simp [intOf]; omega⟩
        first | exact ⟨_, rfl⟩ | exact drew2 _ _ _
    · have hkn : k = n := by omega
      subst hkn
      go_wp2
      go_ret
      exact ⟨rfl, _, rfl⟩
end Go.Proofs.Qxb6626881a
