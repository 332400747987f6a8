/-
  The state as plain data; the guards on sizes; bkReachable.
-/
import Derived.Test.Qxb6626453aRowsB
namespace Go.Proofs.Qxb6626453a
open Go.ChangeShapes Go.WideShapes Go.ChangeAt Go.RowKit

/-- A BookkeeperState, its slices by what they hold. -/
structure St where
  name : ByteArray
  ml : Int
  mh : Int
  pl : Int
  ph : Int
  ho : Bool
  oe : Int
  fr : ByteArray
  to : ByteArray
  hl : Bool
  le : Int
  na : Nat
  S : Nat → ByteArray
  nk : Nat
  K : Nat → Bool
  bg : Int

abbrev stVal (X : St) (va vk : Value) : Value := .agg #[.string X.name, .int .u64 X.ml, .int .u64 X.mh, .int .u64 X.pl, .int .u64 X.ph, .bool X.ho, .int .u64 X.oe, .string X.fr, .string X.to, .bool X.hl, .int .u64 X.le, va, vk, .int .u64 X.bg]

structure St.Ok (X : St) : Prop where
  name : X.name.size ≤ maxLen
  fr : X.fr.size ≤ maxLen
  to : X.to.size ≤ maxLen
  na : X.na ≤ maxLen
  S : ∀ i, (X.S i).size ≤ maxLen
  nk : X.nk ≤ maxLen

def SizePost (X : St) (w : World) (e : Ending) (w' : World) : Prop := ∃ r, e = .returned (.bool r) ∧ (r = true → X.na ≤ 1048576 ∧ X.nk ≤ 1048576) ∧ Below w.heap.size w w'
theorem SizePost.no {X : St} {w w' : World} (h : Below w.heap.size w w') : SizePost X w (.returned (.bool false)) w' := ⟨false, rfl, fun h => (by cases h), h⟩

theorem zzBytes1 (X : St) (va vk : Value) (w : World) (e1 e2 : Int) (ok : X.Ok) (ha : Row w va X.na (fun i => .string (X.S i))) (hk : Row w vk X.nk (fun i => .bool (X.K i))) :
    Calls Try.prog 5 #[stVal X va vk, .int .u64 e1, .int .u64 e2] w (SizePost X w) := by
  obtain ⟨a, ca, rfl, ha⟩ := ha
  obtain ⟨k, ck, rfl, hk⟩ := hk
  clear hk
  obtain ⟨o1, o2, o3, o4, o5, o6⟩ := ok
  unfold maxLen at o1 o2 o3 o4 o5 o6
  unfold stVal
  go_enter Try.func5, Try.ntmps5
  go_wp2
  any_goals (go_ret; exact SizePost.no (by go_grown))
  go_loop [7, 8] (fun z i => ∃ (n : Int) (k : Nat), 0 ≤ n ∧ n ≤ 1048576 ∧ k ≤ X.na ∧ z = .int .i64 n ∧ i = .int .i64 k) (fun _ i => X.na - (intOf i).toNat)
  case atStart => exact ⟨_, 0, by omega, by omega, by omega, rfl, rfl⟩
  case round =>
    obtain ⟨n, k, h0, h1, hk, rfl, rfl⟩ := hrel
    by_cases hlt : k < X.na
    · obtain ⟨b1, b2, hA, ha1⟩ := ha (by omega)
      subst hA
      have hlt1 : b1 < w.heap.size := block_lt_of_cell (ha1 0 (by omega))
      have g1 := ha1 k hlt
      have g5 := o5 k
      clear ha ha1 o5
      go_wp2
      · go_ret
        exact SizePost.no (by go_grown)
      · go_ret
        exact SizePost.no (by go_grown)
      · exact ⟨⟨_, k + 1, by omega, by omega, by omega, rfl, by go_num⟩, by simp [intOf]; omega⟩
    · clear ha o5
      go_wp2
      · go_ret
        exact SizePost.no (by go_grown)
      · go_ret
        exact SizePost.no (by go_grown)
      · go_ret
        exact ⟨true, rfl, fun _ => ⟨by omega, by omega⟩, by go_grown⟩
theorem zzBytes2 (X : St) (va vk : Value) (w : World) (ep : Option Addr) (ne ce : Nat) (hne : ne ≤ maxLen) (ok : X.Ok) (ha : Row w va X.na (fun i => .string (X.S i))) (hk : Row w vk X.nk (fun i => .bool (X.K i))) :
    Calls Try.prog 16 #[stVal X va vk, .slice ep ne ce] w (SizePost X w) := by
  obtain ⟨a, ca, rfl, ha⟩ := ha
  obtain ⟨k, ck, rfl, hk⟩ := hk
  clear hk
  obtain ⟨o1, o2, o3, o4, o5, o6⟩ := ok
  unfold maxLen at o1 o2 o3 o4 o5 o6 hne
  unfold stVal
  go_enter Try.func16, Try.ntmps16
  go_wp2
  any_goals (go_ret; exact SizePost.no (by go_grown))
  go_loop [5, 6] (fun z i => ∃ (n : Int) (k : Nat), 0 ≤ n ∧ n ≤ 1048576 ∧ k ≤ X.na ∧ z = .int .i64 n ∧ i = .int .i64 k) (fun _ i => X.na - (intOf i).toNat)
  case atStart => exact ⟨_, 0, by omega, by omega, by omega, rfl, rfl⟩
  case round =>
    obtain ⟨n, k, h0, h1, hk, rfl, rfl⟩ := hrel
    by_cases hlt : k < X.na
    · obtain ⟨b1, b2, hA, ha1⟩ := ha (by omega)
      subst hA
      have hlt1 : b1 < w.heap.size := block_lt_of_cell (ha1 0 (by omega))
      have g1 := ha1 k hlt
      have g5 := o5 k
      clear ha ha1 o5
      go_wp2
      · go_ret
        exact SizePost.no (by go_grown)
      · go_ret
        exact SizePost.no (by go_grown)
      · exact ⟨⟨_, k + 1, by omega, by omega, by omega, rfl, by go_num⟩, by simp [intOf]; omega⟩
    · clear ha o5
      go_wp2
      · go_ret
        exact SizePost.no (by go_grown)
      · go_ret
        exact SizePost.no (by go_grown)
      · go_ret
        exact SizePost.no (by go_grown)
      · go_ret
        exact SizePost.no (by go_grown)
      · go_ret
        exact ⟨true, rfl, fun _ => ⟨by omega, by omega⟩, by go_grown⟩

def IntPost (w : World) (e : Ending) (w' : World) : Prop := ∃ n : Int, e = .returned (.int .i64 n) ∧ Below w.heap.size w w'

theorem bkAdd_any (n k : Int) (w : World) (h0 : 0 ≤ n) (h1 : n ≤ 2000000) (h2 : 0 ≤ k) :
    Calls Try.prog 21 #[.int .i64 n, .int .i64 k] w fun e w' => (∃ m : Int, e = .returned (.int .i64 m) ∧ 0 ≤ m ∧ m ≤ 4000000) ∧ w' = w := by
  by_cases h : 1048576 < k
  · go_enter Try.func21, Try.ntmps21
    go_wp2
    go_ret
    exact ⟨⟨_, rfl, by omega, by omega⟩, rfl⟩
  · go_enter Try.func21, Try.ntmps21
    go_wp2
    go_ret
    exact ⟨⟨_, rfl, by omega, by omega⟩, rfl⟩

theorem stateBytes (X : St) (va vk : Value) (w : World) (ok : X.Ok) (ha : Row w va X.na (fun i => .string (X.S i))) (hk : Row w vk X.nk (fun i => .bool (X.K i))) :
    Calls Try.prog 6 #[stVal X va vk] w (IntPost w) := by
  obtain ⟨a, ca, rfl, ha⟩ := ha
  obtain ⟨k, ck, rfl, hk⟩ := hk
  clear hk
  obtain ⟨o1, o2, o3, o4, o5, o6⟩ := ok
  unfold maxLen at o1 o2 o3 o4 o5 o6
  unfold stVal
  go_enter Try.func6, Try.ntmps6
  go_wp2_with (go_at_call 21; refine (bkAdd_any _ _ _ (by omega) (by omega) (by omega)).mono ?_; rintro e w' ⟨⟨m, rfl, h0, h1⟩, rfl⟩)
  any_goals (go_ret; exact ⟨_, rfl, by go_grown⟩)
  go_loop [3, 4] (fun z i => ∃ (n : Int) (k : Nat), 0 ≤ n ∧ n ≤ 1048576 ∧ k ≤ X.na ∧ z = .int .i64 n ∧ i = .int .i64 k) (fun _ i => X.na - (intOf i).toNat)
  case atStart => exact ⟨_, 0, by omega, by omega, by omega, rfl, rfl⟩
  case round =>
    obtain ⟨n, k, h0, h1, hk, rfl, rfl⟩ := hrel
    by_cases hlt : k < X.na
    · obtain ⟨b1, b2, hA, ha1⟩ := ha (by omega)
      subst hA
      have hlt1 : b1 < w.heap.size := block_lt_of_cell (ha1 0 (by omega))
      have g1 := ha1 k hlt
      have g5 := o5 k
      clear ha ha1 o5
      go_wp2_with (go_at_call 21; refine (bkAdd_any _ _ _ (by omega) (by omega) (by omega)).mono ?_; rintro e w' ⟨⟨m, rfl, h0, h1⟩, rfl⟩)
      · go_ret
        exact ⟨_, rfl, by go_grown⟩
      · exact ⟨⟨_, k + 1, by omega, by omega, by omega, rfl, by go_num⟩, by simp [intOf]; omega⟩
    · clear ha o5
      go_wp2
      go_ret
      exact ⟨_, rfl, by go_grown⟩

def ReachPost (X : St) (w : World) (e : Ending) (w' : World) : Prop :=
  ∃ r, e = .returned (.bool r) ∧ (r = true → (X.hl = true → X.nk = X.na ∧ X.bg ≤ X.le) ∧ (X.ho = true → X.bg ≤ X.oe)) ∧ Below w.heap.size w w'

theorem ReachPost.no {X : St} {w w' : World} (h : Below w.heap.size w w') : ReachPost X w (.returned (.bool false)) w' := ⟨false, rfl, fun h => (by cases h), h⟩

theorem reachable (X : St) (va vk : Value) (w : World) (ha : Row w va X.na (fun i => .string (X.S i))) (hk : Row w vk X.nk (fun i => .bool (X.K i))) :
    Calls Try.prog 7 #[stVal X va vk] w (ReachPost X w) := by
  obtain ⟨a, ca, rfl, ha⟩ := ha
  obtain ⟨k, ck, rfl, hk⟩ := hk
  clear hk ha
  unfold stVal
  by_cases c1 : X.hl = true
  · by_cases c2 : X.nk = X.na
    · have d2 : ((X.nk : Int) != (X.na : Int)) = false := by simp [c2]
      have C2 : Hid (X.nk = X.na) := c2
      clear c2
      by_cases c3 : X.le < X.bg
      · go_enter Try.func7, Try.ntmps7
        go_wp2
        go_ret
        exact ReachPost.no (by go_grown)
      · by_cases c4 : X.ho = true
        · by_cases c5 : X.oe < X.bg
          · go_enter Try.func7, Try.ntmps7
            go_wp2
            go_ret
            exact ReachPost.no (by go_grown)
          · go_enter Try.func7, Try.ntmps7
            go_wp2
            go_ret
            exact ⟨true, rfl, fun _ => ⟨fun _ => ⟨C2.out, by omega⟩, fun _ => by omega⟩, by go_grown⟩
        · have c4' : X.ho = false := by simpa using c4
          go_enter Try.func7, Try.ntmps7
          go_wp2
          go_ret
          exact ⟨true, rfl, fun _ => ⟨fun _ => ⟨C2.out, by omega⟩, fun h => absurd h c4⟩, by go_grown⟩
    · have d2 : ((X.nk : Int) != (X.na : Int)) = true := by simp; omega
      go_enter Try.func7, Try.ntmps7
      go_wp2
      go_ret
      exact ReachPost.no (by go_grown)
  · have c1' : X.hl = false := by simpa using c1
    by_cases c4 : X.ho = true
    · by_cases c5 : X.oe < X.bg
      · go_enter Try.func7, Try.ntmps7
        go_wp2
        go_ret
        exact ReachPost.no (by go_grown)
      · go_enter Try.func7, Try.ntmps7
        go_wp2
        go_ret
        exact ⟨true, rfl, fun _ => ⟨fun h => absurd h c1, fun _ => by omega⟩, by go_grown⟩
    · have c4' : X.ho = false := by simpa using c4
      go_enter Try.func7, Try.ntmps7
      go_wp2
      go_ret
      exact ⟨true, rfl, fun _ => ⟨fun h => absurd h c1, fun h => absurd h c4⟩, by go_grown⟩
end Go.Proofs.Qxb6626453a
