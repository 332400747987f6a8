/-
  The functions on the two laws' road, each by its contract; plain facts on bytes.
-/
import Derived.Test.Qxb6626486aRows
import Derived.WalkKit
import Derived.ProofKit
import Derived.OpenShut
import Derived.ShutString
import Derived.Handy
import Derived.WalkLawsBesides
import Derived.WalkSpells
namespace Go.Proofs.Qxb6626486a
open Go.ChangeShapes Go.WideShapes Go.ChangeAt Go.RowKit

theorem string_set (t r : ByteArray) (w : World) (h : (r.toList.isEmpty) = false) (ht : t.size ≤ 1048576) (hr : r.size ≤ 1048576) :
    Calls Try.prog 7 #[.agg #[.string t, .string r]] w fun e w' => e = .returned (.string (t ++ ⟨#[35]⟩ ++ r)) ∧ w' = (w.alloc (.cells #[.string t, .string r] 25)).alloc (.cells #[.string t, .string r] 25) := by
  go_enter Try.func7, Try.ntmps7
  go_wp2
  go_ret
  exact ⟨rfl, rfl⟩
theorem string_bare (t : ByteArray) (w : World) :
    Calls Try.prog 7 #[.agg #[.string t, .string ByteArray.empty]] w fun e w' => e = .returned (.string t) ∧ w' = (w.alloc (.cells #[.string t, .string ByteArray.empty] 25)).alloc (.cells #[.string t, .string ByteArray.empty] 25) := by
  go_enter Try.func7, Try.ntmps7
  go_wp2
  go_ret
  exact ⟨rfl, rfl⟩

/-- n is the place of the first '#' of s; -1 if there is none. -/
def Hash (s : ByteArray) (n : Int) : Prop := (n = -1 ∧ ∀ j (h : j < s.size), s[j] ≠ 35) ∨ ∃ k, ∃ h : k < s.size, n = k ∧ s[k] = 35 ∧ ∀ j (hj : j < k), s[j]'(by omega) ≠ 35

theorem byte_yes {s : ByteArray} {k : Nat} {h : k < s.size} (e : ((s[k].toNat : Int) == 35) = true) : s[k] = 35 := by
  simp at e
  apply UInt8.toNat_inj.1
  show s[k].toNat = 35
  omega
theorem byte_no {s : ByteArray} {k : Nat} {h : k < s.size} (e : ((s[k].toNat : Int) == 35) = false) : s[k] ≠ 35 := by
  intro h'
  rw [h'] at e
  simp at e

def HashPost (s : ByteArray) (w : World) (e : Ending) (w' : World) : Prop := ∃ n, e = .returned (.int .i64 n) ∧ Hash s n ∧ w' = w

theorem indexHash (s : ByteArray) (w : World) (hs : s.size ≤ 3000000) :
    Calls Try.prog 6 #[.string s] w (HashPost s w) := by
  go_enter Try.func6, Try.ntmps6
  go_wp2
  go_loop [3] (fun i => ∃ k : Nat, k ≤ s.size ∧ i = .int .i64 k ∧ Hid (∀ j (_ : j < k) (h : j < s.size), s[j] ≠ 35)) (fun i => s.size - (intOf i).toNat)
  case atStart => exact ⟨0, Nat.zero_le _, rfl, fun j hj => by omega⟩
  case round =>
    obtain ⟨k, hk, rfl, H⟩ := hrel
    by_cases hlt : k < s.size
    · go_wp2
      · go_ret
        exact ⟨_, rfl, .inr ⟨k, hlt, rfl, byte_yes (by assumption), fun j hj => H.out j hj _⟩, rfl⟩
      · have hne := byte_no (s := s) (k := k) (h := hlt) (by assumption)
        refine ⟨⟨k + 1, by omega, by go_num, fun j hj h => ?_⟩, by simp [intOf]; omega⟩
        rcases Nat.lt_or_ge j k with h' | h'
        · exact H.out j h' h
        · have : j = k := by omega
          subst this
          exact hne
    · go_wp2
      go_ret
      exact ⟨_, rfl, .inl ⟨rfl, fun j hj => H.out j (by omega) hj⟩, rfl⟩

/-! ### plain facts on bytes -/
theorem one_size : (⟨#[35]⟩ : ByteArray).size = 1 := rfl
theorem mid (t r : ByteArray) (h : t.size < (t ++ ⟨#[35]⟩ ++ r).size) : (t ++ ⟨#[35]⟩ ++ r)[t.size] = 35 := by
  rw [ByteArray.getElem_append_left (by rw [ByteArray.size_append, one_size]; omega)]
  rw [ByteArray.getElem_append_right (Nat.le_refl _)]
  simp
  rfl
theorem head_joined (t r : ByteArray) : (t ++ ⟨#[35]⟩ ++ r).extract 0 t.size = t := by
  apply ByteArray.ext
  simp
theorem tail_joined (t r : ByteArray) : (t ++ ⟨#[35]⟩ ++ r).extract (t.size + 1) (t ++ ⟨#[35]⟩ ++ r).size = r := by
  apply ByteArray.ext
  simp only [ByteArray.data_extract, ByteArray.data_append, ByteArray.size_append, one_size]
  have e : t.size = t.data.size := rfl
  have e' : r.size = r.data.size := rfl
  rw [Array.extract_append]
  simp
  have h1 : (t.data.push 35).extract (t.size + 1) (t.size + 1 + r.size) = #[] := Array.extract_eq_empty_of_le (by rw [Array.size_push, ← e]; omega)
  rw [h1, e', Array.extract_size, Array.empty_append]

theorem joined_size (t r : ByteArray) : (t ++ ⟨#[35]⟩ ++ r).size = t.size + 1 + r.size := by rw [ByteArray.size_append, ByteArray.size_append, one_size]
theorem joined_left (t r : ByteArray) (j : Nat) (h : j < t.size) (h' : j < (t ++ ⟨#[35]⟩ ++ r).size) : (t ++ ⟨#[35]⟩ ++ r)[j] = t[j] := by
  rw [ByteArray.getElem_append_left (by rw [ByteArray.size_append, one_size]; omega), ByteArray.getElem_append_left h]

theorem hash_joined {t r : ByteArray} {n : Int} (ht : ∀ j (h : j < t.size), t[j] ≠ 35) (h : Hash (t ++ ⟨#[35]⟩ ++ r) n) : n = t.size := by
  have hlt : t.size < (t ++ ⟨#[35]⟩ ++ r).size := by rw [joined_size]; omega
  rcases h with ⟨_, h⟩ | ⟨k, hk, rfl, h1, h2⟩
  · exact absurd (mid t r hlt) (h _ hlt)
  · rcases Nat.lt_trichotomy k t.size with h' | h' | h'
    · exact absurd (by rw [joined_left t r k h' hk] at h1; exact h1) (ht k h')
    · rw [h']
    · exact absurd (mid t r hlt) (h2 _ h')

theorem joined_inj {t r t' r' : ByteArray} (ht : ∀ j (h : j < t.size), t[j] ≠ 35) (ht' : ∀ j (h : j < t'.size), t'[j] ≠ 35) (h : t ++ ⟨#[35]⟩ ++ r = t' ++ ⟨#[35]⟩ ++ r') : t = t' ∧ r = r' := by
  have hs : Hash (t ++ ⟨#[35]⟩ ++ r) (t.size : Int) := .inr ⟨t.size, by rw [joined_size]; omega, rfl, mid t r _, fun j hj => by rw [joined_left t r j hj]; exact ht j hj⟩
  rw [h] at hs
  have e : t.size = t'.size := by have := hash_joined ht' hs; omega
  have e1 : (t ++ ⟨#[35]⟩ ++ r).extract 0 t.size = (t' ++ ⟨#[35]⟩ ++ r').extract 0 t'.size := by rw [h, e]
  have e2 : (t ++ ⟨#[35]⟩ ++ r).extract (t.size + 1) (t ++ ⟨#[35]⟩ ++ r).size = (t' ++ ⟨#[35]⟩ ++ r').extract (t'.size + 1) (t' ++ ⟨#[35]⟩ ++ r').size := by rw [h, e]
  rw [head_joined, head_joined] at e1
  rw [tail_joined, tail_joined] at e2
  exact ⟨e1, e2⟩

theorem bare_ne {t t' r' : ByteArray} (ht : ∀ j (h : j < t.size), t[j] ≠ 35) : t ≠ t' ++ ⟨#[35]⟩ ++ r' := by
  intro h
  have hlt : t'.size < (t' ++ ⟨#[35]⟩ ++ r').size := by rw [joined_size]; omega
  have h1 := mid t' r' hlt
  subst h
  exact ht _ hlt h1

theorem nonempty_of {a : ByteArray} (h : a ≠ ByteArray.empty) : a.toList.isEmpty = false := by
  rw [← decide_eq_emptyBytes]; exact decide_eq_false h
theorem bytes_ne {a b : ByteArray} (h : a ≠ b) : (a.toList == b.toList) = false := by
  rw [Bool.eq_false_iff]
  intro e
  apply h
  have e1 := eq_of_beq e
  rw [ByteArray.toList_eq, ByteArray.toList_eq] at e1
  exact bytes_inj e1

/-! ### the guards on sizes -/
def Size2 (t r : ByteArray) (w : World) (e : Ending) (w' : World) : Prop := ∃ b, e = .returned (.bool b) ∧ (b = true → t.size + r.size ≤ 1048576) ∧ w' = w
theorem size2 (t r : ByteArray) (w : World) (h1 : t.size ≤ maxLen) (h2 : r.size ≤ maxLen) : Calls Try.prog 5 #[.string t, .string r] w (Size2 t r w) := by
  unfold maxLen at h1 h2
  go_enter Try.func5, Try.ntmps5
  go_wp2
  all_goals go_ret
  all_goals first | exact ⟨false, rfl, fun h => (by cases h), rfl⟩ | exact ⟨true, rfl, fun _ => by omega, rfl⟩

def Size4 (t r t' r' : ByteArray) (w : World) (e : Ending) (w' : World) : Prop := ∃ b, e = .returned (.bool b) ∧ (b = true → t.size + r.size + t'.size + r'.size ≤ 1048576) ∧ w' = w
theorem size4 (t r t' r' : ByteArray) (w : World) (h1 : t.size ≤ maxLen) (h2 : r.size ≤ maxLen) (h3 : t'.size ≤ maxLen) (h4 : r'.size ≤ maxLen) : Calls Try.prog 9 #[.string t, .string r, .string t', .string r'] w (Size4 t r t' r' w) := by
  unfold maxLen at h1 h2 h3 h4
  go_enter Try.func9, Try.ntmps9
  go_wp2
  all_goals go_ret
  all_goals first | exact ⟨false, rfl, fun h => (by cases h), rfl⟩ | exact ⟨true, rfl, fun _ => by omega, rfl⟩
end Go.Proofs.Qxb6626486a
