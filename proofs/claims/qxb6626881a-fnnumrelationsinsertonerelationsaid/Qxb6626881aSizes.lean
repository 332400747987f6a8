/-
  The size checks: zzBytes of both laws answer some bool and change nothing; zzSizeOK answers true only where every inner row is short.
-/
import Derived.Test.Qxb6626881aSchema
namespace Go.Proofs.Qxb6626881a
open Go.ChangeShapes Go.WideShapes Go.ChangeAt Go.RowKit Go.Maps

def BytePost (w : World) (e : Ending) (w' : World) : Prop := ∃ r, e = .returned (.bool r) ∧ w' = w
def SizePost (m : Nat) (ρ : Rel) (w : World) (e : Ending) (w' : World) : Prop := ∃ r, e = .returned (.bool r) ∧ (r = true → ∀ i, i < m → ρ.q i ≤ 4096) ∧ w' = w
theorem SizePost.no {m : Nat} {ρ : Rel} {w : World} : SizePost m ρ w (.returned (.bool false)) w := ⟨false, rfl, fun h => (by cases h), rfl⟩

theorem sizeOK (vt vr : Value) (n m : Nat) (S : Nat → ByteArray) (ρ : Rel) (w : World) (x : Int) (hn : n ≤ maxLen) (hm : m ≤ maxLen) (hq : ∀ i, ρ.q i ≤ maxLen) (hS : ∀ i, (S i).size ≤ maxLen) (hR : ∀ i j, (ρ.Rn i j).size ≤ maxLen)
    (ht : Row w vt n (fun j => .string (S j))) (hr : RelRow w vr m ρ) : Calls Try.prog 6 #[vt, vr, .int .i64 x] w (SizePost m ρ w) := by
  obtain ⟨a, ca, rfl, ht⟩ := ht
  obtain ⟨⟨a2, ca2, rfl, hr1⟩, hr2⟩ := hr
  have HT : Hid (0 < n → ∃ b off, a = some ⟨b, off, none⟩ ∧ ∀ i, i < n → w.cell? ⟨b, off + i, none⟩ = some (.string (S i))) := ht
  have H1 : Hid (0 < m → ∃ b off, a2 = some ⟨b, off, none⟩ ∧ ∀ i, i < m → w.cell? ⟨b, off + i, none⟩ = some (ρ.val i)) := hr1
  have H2 : Hid (∀ i, i < m → Row w (ρ.val i) (ρ.q i) (fun j => .string (ρ.Rn i j))) := hr2
  have HQ : Hid (∀ i, ρ.q i ≤ maxLen) := hq
  have HS : Hid (∀ i, (S i).size ≤ maxLen) := hS
  have HR : Hid (∀ i j, (ρ.Rn i j).size ≤ maxLen) := hR
  clear ht hr1 hr2 hq hS hR
  unfold maxLen at hn hm
  go_enter Try.func6, Try.ntmps6
  go_wp2
  all_goals try (go_ret; exact SizePost.no)
  go_loop [7, 8] (fun z c => ∃ (t : Int) (k : Nat), k ≤ n ∧ z = .int .i64 t ∧ c = .int .i64 k) (fun _ c => n - (intOf c).toNat)
  case atStart => exact ⟨_, 0, by omega, rfl, rfl⟩
  case round =>
    obtain ⟨t, k, hk, rfl, rfl⟩ := hrel
    by_cases hlt : k < n
    · obtain ⟨b1, o1, hA, ha1⟩ := HT.out (by omega)
      subst hA
      have g1 := ha1 k hlt
      have g5 := HS.out k
      unfold maxLen at g5
      clear ha1
      go_wp2
      all_goals try (go_ret; exact SizePost.no)
      exact ⟨⟨_, k + 1, by omega, rfl, by go_num⟩, by simp [intOf]; omega⟩
    · go_wp2
      all_goals try (go_ret; exact SizePost.no)
      go_loop [7, 9] (fun z c => ∃ (t : Int) (i : Nat), i ≤ m ∧ z = .int .i64 t ∧ c = .int .i64 i ∧ (∀ x, x < i → ρ.q x ≤ 4096)) (fun _ c => m - (intOf c).toNat)
      case atStart => exact ⟨_, 0, by omega, rfl, rfl, fun x h => absurd h (by omega)⟩
      case round =>
        obtain ⟨t, i, hi, rfl, rfl, HI⟩ := hrel
        have HI : Hid (∀ x, x < i → ρ.q x ≤ 4096) := HI
        by_cases hlt : i < m
        · obtain ⟨b2, o2, hA, ha2⟩ := H1.out (by omega)
          subst hA
          have g2 := ha2 i hlt
          have g3 := HQ.out i
          have g4 := H2.out i hlt
          unfold maxLen at g3
          clear ha2
          go_wp2
          all_goals try (go_ret; exact SizePost.no)
          go_loop [7, 10] (fun z c => ∃ (t : Int) (j : Nat), j ≤ ρ.q i ∧ z = .int .i64 t ∧ c = .int .i64 j) (fun _ c => ρ.q i - (intOf c).toNat)
          case atStart => exact ⟨_, 0, by omega, rfl, rfl⟩
          case round =>
            obtain ⟨t, j, hj, rfl, rfl⟩ := hrel
            by_cases hjq : j < ρ.q i
            · obtain ⟨a3, c3, hv3, hrow3⟩ := g4
              obtain ⟨b3, o3, ha3, hc3⟩ := hrow3 (by omega)
              have hra : ρ.ra i = some ⟨b3, o3, none⟩ := by cases hv3; exact ha3
              have hcj := hc3 j hjq
              have g6 := HR.out i j
              unfold maxLen at g6
              have g7 : w.cell? ⟨b2, o2 + i, none⟩ = some (.slice (some ⟨b3, o3, none⟩) (ρ.q i) (ρ.rc i)) := by rw [g2]; show some (Value.slice (ρ.ra i) (ρ.q i) (ρ.rc i)) = _; rw [hra]
              clear g2 hv3 hrow3 hc3 hra ha3
              go_wp2
              all_goals try (go_ret; exact SizePost.no)
              exact ⟨⟨_, j + 1, by omega, rfl, by go_num⟩, by simp [intOf]; omega⟩
            · go_wp2
              all_goals try (go_ret; exact SizePost.no)
              exact ⟨⟨_, i + 1, by omega, rfl, by go_num, fun x hx => by rcases Nat.lt_succ_iff_lt_or_eq.mp hx with h | h; exact HI.out x h; subst h; omega⟩, by simp [intOf]; omega⟩
        · go_wp2
          have him : i = m := by omega
          subst him
          all_goals try (go_ret; first | exact SizePost.no | exact ⟨true, rfl, fun _ => HI.out, rfl⟩)
theorem bytesSplit (vt vr : Value) (n m : Nat) (S : Nat → ByteArray) (ρ : Rel) (w : World) (x : Int) (hn : n ≤ maxLen) (hm : m ≤ maxLen) (hq : ∀ i, ρ.q i ≤ maxLen) (hS : ∀ i, (S i).size ≤ maxLen) (hR : ∀ i j, (ρ.Rn i j).size ≤ maxLen)
    (ht : Row w vt n (fun j => .string (S j))) (hr : RelRow w vr m ρ) : Calls Try.prog 5 #[vt, vr, .int .i64 x] w (BytePost w) := by
  obtain ⟨a, ca, rfl, ht⟩ := ht
  obtain ⟨⟨a2, ca2, rfl, hr1⟩, hr2⟩ := hr
  have HT : Hid (0 < n → ∃ b off, a = some ⟨b, off, none⟩ ∧ ∀ i, i < n → w.cell? ⟨b, off + i, none⟩ = some (.string (S i))) := ht
  have H1 : Hid (0 < m → ∃ b off, a2 = some ⟨b, off, none⟩ ∧ ∀ i, i < m → w.cell? ⟨b, off + i, none⟩ = some (ρ.val i)) := hr1
  have H2 : Hid (∀ i, i < m → Row w (ρ.val i) (ρ.q i) (fun j => .string (ρ.Rn i j))) := hr2
  have HQ : Hid (∀ i, ρ.q i ≤ maxLen) := hq
  have HS : Hid (∀ i, (S i).size ≤ maxLen) := hS
  have HR : Hid (∀ i j, (ρ.Rn i j).size ≤ maxLen) := hR
  clear ht hr1 hr2 hq hS hR
  unfold maxLen at hn hm
  go_enter Try.func5, Try.ntmps5
  go_wp2
  all_goals try (go_ret; exact ⟨_, rfl, rfl⟩)
  go_loop [7, 8] (fun z c => ∃ (t : Int) (k : Nat), 0 ≤ t ∧ t ≤ 1048576 ∧ k ≤ n ∧ z = .int .i64 t ∧ c = .int .i64 k) (fun _ c => n - (intOf c).toNat)
  case atStart => exact ⟨_, 0, by omega, by omega, by omega, rfl, rfl⟩
  case round =>
    obtain ⟨t, k, h0, h1, hk, rfl, rfl⟩ := hrel
    by_cases hlt : k < n
    · obtain ⟨b1, o1, hA, ha1⟩ := HT.out (by omega)
      subst hA
      have g1 := ha1 k hlt
      have g5 := HS.out k
      unfold maxLen at g5
      clear ha1
      go_wp2
      all_goals try (go_ret; exact ⟨_, rfl, rfl⟩)
      exact ⟨⟨_, k + 1, by omega, by omega, by omega, rfl, by go_num⟩, by simp [intOf]; omega⟩
    · go_wp2
      all_goals try (go_ret; exact ⟨_, rfl, rfl⟩)
      go_loop [7, 9] (fun z c => ∃ (t : Int) (i : Nat), 0 ≤ t ∧ t ≤ 1048576 ∧ i ≤ m ∧ z = .int .i64 t ∧ c = .int .i64 i) (fun _ c => m - (intOf c).toNat)
      case atStart => exact ⟨_, 0, by omega, by omega, by omega, rfl, rfl⟩
      case round =>
        obtain ⟨t, i, h0, h1, hi, rfl, rfl⟩ := hrel
        skip
        by_cases hlt : i < m
        · obtain ⟨b2, o2, hA, ha2⟩ := H1.out (by omega)
          subst hA
          have g2 := ha2 i hlt
          have g3 := HQ.out i
          have g4 := H2.out i hlt
          unfold maxLen at g3
          clear ha2
          go_wp2
          all_goals try (go_ret; exact ⟨_, rfl, rfl⟩)
          go_loop [7, 10] (fun z c => ∃ (t : Int) (j : Nat), 0 ≤ t ∧ t ≤ 1048576 ∧ j ≤ ρ.q i ∧ z = .int .i64 t ∧ c = .int .i64 j) (fun _ c => ρ.q i - (intOf c).toNat)
          case atStart => exact ⟨_, 0, by omega, by omega, by omega, rfl, rfl⟩
          case round =>
            obtain ⟨t, j, h0, h1, hj, rfl, rfl⟩ := hrel
            by_cases hjq : j < ρ.q i
            · obtain ⟨a3, c3, hv3, hrow3⟩ := g4
              obtain ⟨b3, o3, ha3, hc3⟩ := hrow3 (by omega)
              have hra : ρ.ra i = some ⟨b3, o3, none⟩ := by cases hv3; exact ha3
              have hcj := hc3 j hjq
              have g6 := HR.out i j
              unfold maxLen at g6
              have g7 : w.cell? ⟨b2, o2 + i, none⟩ = some (.slice (some ⟨b3, o3, none⟩) (ρ.q i) (ρ.rc i)) := by rw [g2]; show some (Value.slice (ρ.ra i) (ρ.q i) (ρ.rc i)) = _; rw [hra]
              clear g2 hv3 hrow3 hc3 hra ha3
              go_wp2
              all_goals try (go_ret; exact ⟨_, rfl, rfl⟩)
              exact ⟨⟨_, j + 1, by omega, by omega, by omega, rfl, by go_num⟩, by simp [intOf]; omega⟩
            · go_wp2
              all_goals try (go_ret; exact ⟨_, rfl, rfl⟩)
              exact ⟨⟨_, i + 1, by omega, by omega, by omega, rfl, by go_num⟩, by simp [intOf]; omega⟩
        · go_wp2
          skip
          skip
          all_goals try (go_ret; exact ⟨_, rfl, rfl⟩)
theorem bytesInsert (vt vr : Value) (n m : Nat) (S : Nat → ByteArray) (ρ : Rel) (w : World) (x y : Int) (name : ByteArray) (hname : name.size ≤ maxLen) (hn : n ≤ maxLen) (hm : m ≤ maxLen) (hq : ∀ i, ρ.q i ≤ maxLen) (hS : ∀ i, (S i).size ≤ maxLen) (hR : ∀ i j, (ρ.Rn i j).size ≤ maxLen)
    (ht : Row w vt n (fun j => .string (S j))) (hr : RelRow w vr m ρ) : Calls Try.prog 10 #[vt, vr, .int .i64 x, .int .i64 y, .string name] w (BytePost w) := by
  obtain ⟨a, ca, rfl, ht⟩ := ht
  obtain ⟨⟨a2, ca2, rfl, hr1⟩, hr2⟩ := hr
  have HT : Hid (0 < n → ∃ b off, a = some ⟨b, off, none⟩ ∧ ∀ i, i < n → w.cell? ⟨b, off + i, none⟩ = some (.string (S i))) := ht
  have H1 : Hid (0 < m → ∃ b off, a2 = some ⟨b, off, none⟩ ∧ ∀ i, i < m → w.cell? ⟨b, off + i, none⟩ = some (ρ.val i)) := hr1
  have H2 : Hid (∀ i, i < m → Row w (ρ.val i) (ρ.q i) (fun j => .string (ρ.Rn i j))) := hr2
  have HQ : Hid (∀ i, ρ.q i ≤ maxLen) := hq
  have HS : Hid (∀ i, (S i).size ≤ maxLen) := hS
  have HR : Hid (∀ i j, (ρ.Rn i j).size ≤ maxLen) := hR
  clear ht hr1 hr2 hq hS hR
  unfold maxLen at hn hm hname
  go_enter Try.func10, Try.ntmps10
  go_wp2
  all_goals try (go_ret; exact ⟨_, rfl, rfl⟩)
  go_loop [11, 12] (fun z c => ∃ (t : Int) (k : Nat), 0 ≤ t ∧ t ≤ 1048576 ∧ k ≤ n ∧ z = .int .i64 t ∧ c = .int .i64 k) (fun _ c => n - (intOf c).toNat)
  case atStart => exact ⟨_, 0, by omega, by omega, by omega, rfl, rfl⟩
  case round =>
    obtain ⟨t, k, h0, h1, hk, rfl, rfl⟩ := hrel
    by_cases hlt : k < n
    · obtain ⟨b1, o1, hA, ha1⟩ := HT.out (by omega)
      subst hA
      have g1 := ha1 k hlt
      have g5 := HS.out k
      unfold maxLen at g5
      clear ha1
      go_wp2
      all_goals try (go_ret; exact ⟨_, rfl, rfl⟩)
      exact ⟨⟨_, k + 1, by omega, by omega, by omega, rfl, by go_num⟩, by simp [intOf]; omega⟩
    · go_wp2
      all_goals try (go_ret; exact ⟨_, rfl, rfl⟩)
      go_loop [11, 13] (fun z c => ∃ (t : Int) (i : Nat), 0 ≤ t ∧ t ≤ 1048576 ∧ i ≤ m ∧ z = .int .i64 t ∧ c = .int .i64 i) (fun _ c => m - (intOf c).toNat)
      case atStart => exact ⟨_, 0, by omega, by omega, by omega, rfl, rfl⟩
      case round =>
        obtain ⟨t, i, h0, h1, hi, rfl, rfl⟩ := hrel
        skip
        by_cases hlt : i < m
        · obtain ⟨b2, o2, hA, ha2⟩ := H1.out (by omega)
          subst hA
          have g2 := ha2 i hlt
          have g3 := HQ.out i
          have g4 := H2.out i hlt
          unfold maxLen at g3
          clear ha2
          go_wp2
          all_goals try (go_ret; exact ⟨_, rfl, rfl⟩)
          go_loop [11, 14] (fun z c => ∃ (t : Int) (j : Nat), 0 ≤ t ∧ t ≤ 1048576 ∧ j ≤ ρ.q i ∧ z = .int .i64 t ∧ c = .int .i64 j) (fun _ c => ρ.q i - (intOf c).toNat)
          case atStart => exact ⟨_, 0, by omega, by omega, by omega, rfl, rfl⟩
          case round =>
            obtain ⟨t, j, h0, h1, hj, rfl, rfl⟩ := hrel
            by_cases hjq : j < ρ.q i
            · obtain ⟨a3, c3, hv3, hrow3⟩ := g4
              obtain ⟨b3, o3, ha3, hc3⟩ := hrow3 (by omega)
              have hra : ρ.ra i = some ⟨b3, o3, none⟩ := by cases hv3; exact ha3
              have hcj := hc3 j hjq
              have g6 := HR.out i j
              unfold maxLen at g6
              have g7 : w.cell? ⟨b2, o2 + i, none⟩ = some (.slice (some ⟨b3, o3, none⟩) (ρ.q i) (ρ.rc i)) := by rw [g2]; show some (Value.slice (ρ.ra i) (ρ.q i) (ρ.rc i)) = _; rw [hra]
              clear g2 hv3 hrow3 hc3 hra ha3
              go_wp2
              all_goals try (go_ret; exact ⟨_, rfl, rfl⟩)
              exact ⟨⟨_, j + 1, by omega, by omega, by omega, rfl, by go_num⟩, by simp [intOf]; omega⟩
            · go_wp2
              all_goals try (go_ret; exact ⟨_, rfl, rfl⟩)
              exact ⟨⟨_, i + 1, by omega, by omega, by omega, rfl, by go_num⟩, by simp [intOf]; omega⟩
        · go_wp2
          skip
          skip
          all_goals try (go_ret; exact ⟨_, rfl, rfl⟩)
end Go.Proofs.Qxb6626881a
