/-
  FnJudgeKeepsGreatest: the walk, and the row out of it (the frame: written by the kit's skeleton tool).
-/
import Derived.Test.Qxb6626515aBase
namespace Go.Proofs.Qxb6626515a.fnJudgeKeepsGreatest
open Go.ChangeShapes Go.WideShapes Go.ChangeAt Go.RowKit
open Go.ChangeMaps (open_string shut_string)
set_option linter.unusedVariables false

theorem own : ownKnob Try.prog.godebug = none := by kernel_rfl
theorem laidOut : laidOutB Try.prog = true := by kernel_rfl

/-- WHAT THE WALK IS TOLD OF A SLICE OF INTEGERS THAT CAME IN: it is nil; or it leads to a row of 'cap' cells, the numbers 'zs' (the first 'len' are its elements, the rest its spare room), each fitting its kind. -/
def IsRow (k : IntKind) (w : World) (a : Option Addr) (len cap : Nat) (zs : List Int) : Prop :=
  (a = none ∧ len = 0 ∧ cap = 0 ∧ zs = []) ∨
  ∃ x, a = some x ∧ len ≤ cap ∧ cap ≤ maxLen ∧ zs.length = cap ∧ (∀ i, i < zs.length → w.cell? (x.add i) = some (.int k (zs.getD i 0))) ∧ ∀ n ∈ zs, (Lit.int k n).wf = true

theorem IsRow.len_le {k : IntKind} {w : World} {a : Option Addr} {len cap : Nat} {zs : List Int} (h : IsRow k w a len cap zs) : len ≤ maxLen := by
  rcases h with ⟨_, rfl, _⟩ | ⟨x, _, h1, h2, _⟩
  · exact Nat.zero_le _
  · omega
theorem IsRow.cells {k : IntKind} {w : World} {a : Option Addr} {len cap : Nat} {zs : List Int} (h : IsRow k w a len cap zs) : ∀ j, j < len → ∃ b off v, a = some ⟨b, off, none⟩ ∧ w.cell? ⟨b, off + j, none⟩ = some (.int k v) := by
  intro j hj
  rcases h with ⟨_, rfl, _⟩ | ⟨x, rfl, h1, h2, h3, h4, _⟩
  · omega
  · obtain ⟨b, off, spot⟩ := x
    have hspot : spot = none := by simpa [Addr.add] using World.cell?_spot (h4 0 (by omega))
    subst hspot
    exact ⟨b, off, _, rfl, by have := h4 j (by omega); rwa [add_plain] at this⟩

def SizePost (w : World) (e : Ending) (w' : World) : Prop := ∃ b, e = .returned (.bool b) ∧ w' = w
theorem sizes (a0 : Bool) (a1 a2 : Int) (a3 : Option Addr) (len3 cap3 : Nat) (a4 : Option Addr) (len4 cap4 : Nat) (w : World) (l3 : len3 ≤ maxLen) (l4 : len4 ≤ maxLen) :
    Calls Try.prog 10 #[.bool a0, .int .i64 a1, .int .i64 a2, .slice a3 len3 cap3, .slice a4 len4 cap4] w (SizePost w) := by
  unfold maxLen at l3 l4
  go_enter Try.func10, Try.ntmps10
  go_wp2
  all_goals go_ret
  all_goals exact ⟨_, rfl, rfl⟩

/-! ### STEP 1: THE WALK: the Go text returns true, AND WRITES NOTHING THAT WAS THERE: 'Below w.heap.size w w'' (Derived/Below.lean: '.refl', '.alloc', '.drew', '.setCell' at a new block, '.trans'). Open each 'IsRow' by 'rcases' AHEAD of 'go_enter'; part every test ahead of the walk. -/
set_option maxHeartbeats 4000000 in
set_option maxRecDepth 100000 in
theorem walk (a0 : Bool) (a1 : Int) (a2 : Int) (a3 : Option Addr) (len3 cap3 : Nat) (z3 : List Int) (a4 : Option Addr) (len4 cap4 : Nat) (z4 : List Int) (w : World) (w1 : (Lit.int .i64 a1).wf = true) (w2 : (Lit.int .i64 a2).wf = true) (w3 : IsRow .i64 w a3 len3 cap3 z3) (w4 : IsRow .i64 w a4 len4 cap4 z4) :
    Calls Try.prog 4 #[.bool a0, .int .i64 a1, .int .i64 a2, .slice a3 len3 cap3, .slice a4 len4 cap4] w fun e w' => e = .returned (.bool true) ∧ Below w.heap.size w w' := by
  have l3 := w3.len_le
  have l4 := w4.len_le
  have C3 : Hid (∀ k, k < len3 → ∃ b off v, a3 = some ⟨b, off, none⟩ ∧ w.cell? ⟨b, off + k, none⟩ = some (.int .i64 v)) := w3.cells
  have C4 : Hid (∀ k, k < len4 → ∃ b off v, a4 = some ⟨b, off, none⟩ ∧ w.cell? ⟨b, off + k, none⟩ = some (.int .i64 v)) := w4.cells
  clear w1 w2 w3 w4
  go_enter Try.func4, Try.ntmps4
  go_wp2_with fail
  refine (sizes a0 a1 a2 a3 len3 cap3 a4 len4 cap4 w l3 l4).mono ?_
  rintro e w' ⟨b, rfl, hw⟩
  replace hw := hw.symm
  subst hw
  cases b with
  | false =>
    go_wp2
    go_ret
    exact ⟨rfl, Below.refl _ _⟩
  | true =>
  by_cases h3 : 65536 < len3
  · go_wp2
    go_ret
    exact ⟨rfl, Below.refl _ _⟩
  by_cases h4 : 65536 < len4
  · go_wp2
    go_ret
    exact ⟨rfl, Below.refl _ _⟩
  have hl3 : len3 ≤ 65536 := by omega
  have hl4 : len4 ≤ 65536 := by omega
  clear l3 l4 h3 h4
  cases a0 with
  | false =>
    by_cases h1 : a1 = 0
    · subst h1
      by_cases h2 : a2 = 0
      · subst h2
        by_cases hn : len4 < len3
        · go_wp2_with fail
          refine (newOrder _ _ _ _).mono ?_
          rintro e w' ⟨rfl, rfl⟩
          go_wp2
          obtain ⟨B, hB0⟩ : ∃ B, B = w.heap.size + 1 := ⟨_, rfl⟩
          have HBB : Hid (B = w.heap.size + 1) := hB0
          have hBB : w.heap.size ≤ B := by omega
          rw [← hB0]
          clear hB0
          go_loopw [13, 14, 15, 16] (fun v h1 h2 c wr => ∃ (h : Bool) (mi ms : Int) (k : Nat), k ≤ len4 ∧ v = .bool h ∧ h1 = .int .i64 mi ∧ h2 = .int .i64 ms ∧ c = .int .i64 k ∧ OrdAt wr B h mi ms ∧ Below w.heap.size w wr) (fun _ _ _ c _ => len4 - (intOf c).toNat)
          case atStart => exact ⟨false, 0, 0, 0, Nat.zero_le _, rfl, rfl, rfl, rfl, heap_new _ _ _ (by rw [HBB.out]; simp), by go_grown⟩
          case round =>
            obtain ⟨h, mi, ms, k, hk, rfl, rfl, rfl, rfl, hO, hB⟩ := hrel
            have HO : Hid (OrdAt wr B h mi ms) := hO
            have HB : Hid (Below w.heap.size w wr) := hB
            by_cases hlt : k < len4
            · obtain ⟨b3, o3, i, rfl, c3⟩ := C3.out k (by omega)
              obtain ⟨b4, o4, s, rfl, c4⟩ := C4.out k (by omega)
              have g3 : wr.cell? ⟨b3, o3 + k, none⟩ = some (.int .i64 i) := (hB.cell (p := ⟨b3, o3 + k, none⟩) (block_lt_of_cell c3)).trans c3
              have g4 : wr.cell? ⟨b4, o4 + k, none⟩ = some (.int .i64 s) := (hB.cell (p := ⟨b4, o4 + k, none⟩) (block_lt_of_cell c4)).trans c4
              have q0 : wr.cell? ⟨B, 0, none⟩ = some (.bool h) := cell_of_block hO rfl
              have q1 : wr.cell? ⟨B, 1, none⟩ = some (.int .i64 mi) := cell_of_block hO rfl
              have q2 : wr.cell? ⟨B, 2, none⟩ = some (.int .i64 ms) := cell_of_block hO rfl
              have f0 := frozen_of_block hO 0
              have f1 := frozen_of_block hO 1
              have f2 := frozen_of_block hO 2
              have hsz : B < wr.heap.size := lt_of_heap hO
              have hsz1 : B < wr.heap.size + 1 := by omega
              have hsz2 : B < wr.heap.size + 1 + 1 := by omega
              have hl3' : (k : Int) < (len3 : Int) := by omega
              have hl4' : (k : Int) < (len4 : Int) := by omega
              clear hO hB c3 c4 C3 C4
              cases h with
              | false =>
                have HJ : Hid ((3 : Int) = judge false mi ms i s) := by unfold Hid judge; rw [if_pos (Or.inl rfl)]
                go_wp2_with fail
                refine (judge_any false mi ms i s 3 _ HJ.out).mono ?_
                rintro e w' ⟨rfl, rfl⟩
                go_wp2_with fail
                refine (rise_any _ 3 _ rfl).mono ?_
                rintro e w' ⟨rfl, rfl⟩
                go_wp2_with fail
                refine (newOrder _ _ _ _).mono ?_
                rintro e w' ⟨rfl, rfl⟩
                go_wp2
                go_roundw
                case rel => exact ⟨true, i, s, k + 1, by omega, rfl, rfl, rfl, by go_num, ((HO.out.put i s).kept _).kept _, by have := HB.out; go_grown⟩
                case measure => simp [intOf]; omega
              | true =>
                rcases Int.lt_trichotomy mi i with hh | hh | hh
                · have he : (i == mi) = false := by simp; omega
                  have HJ : Hid ((3 : Int) = judge true mi ms i s) := by unfold Hid judge; rw [if_pos (Or.inr hh)]
                  have HL : Hid (true = less mi ms i s) := by unfold Hid less; rw [decide_eq_true (by omega)]
                  clear hh
                  go_wp2_with fail
                  refine (judge_any true mi ms i s 3 _ HJ.out).mono ?_
                  rintro e w' ⟨rfl, rfl⟩
                  go_wp2_with fail
                  refine (less_any mi ms i s true _ HL.out).mono ?_
                  rintro e w' ⟨rfl, rfl⟩
                  go_wp2_with fail
                  refine (rise_any _ 3 _ rfl).mono ?_
                  rintro e w' ⟨rfl, rfl⟩
                  go_wp2_with fail
                  refine (newOrder _ _ _ _).mono ?_
                  rintro e w' ⟨rfl, rfl⟩
                  go_wp2
                  go_roundw
                  case rel => exact ⟨true, i, s, k + 1, by omega, rfl, rfl, rfl, by go_num, ((HO.out.put i s).kept _).kept _, by have := HB.out; go_grown⟩
                  case measure => simp [intOf]; omega
                · subst hh
                  by_cases hs : s ≤ ms
                  · have HJ : Hid ((1 : Int) = judge true mi ms mi s) := by unfold Hid judge; rw [if_neg (by simp), if_neg (by omega), if_pos hs]
                    have HL : Hid (false = less mi ms mi s) := by unfold Hid less; rw [decide_eq_false (by omega)]
                    clear hs
                    go_wp2_with fail
                    refine (judge_any true mi ms mi s 1 _ HJ.out).mono ?_
                    rintro e w' ⟨rfl, rfl⟩
                    go_wp2_with fail
                    refine (less_any mi ms mi s false _ HL.out).mono ?_
                    rintro e w' ⟨rfl, rfl⟩
                    go_wp2_with fail
                    refine (fall_any _ 1 _ rfl).mono ?_
                    rintro e w' ⟨rfl, rfl⟩
                    go_wp2
                    go_roundw
                    case rel => exact ⟨true, mi, ms, k + 1, by omega, rfl, rfl, rfl, by go_num, HO.out.kept _, by have := HB.out; go_grown⟩
                    case measure => simp [intOf]; omega
                  · have HJ : Hid ((2 : Int) = judge true mi ms mi s) := by unfold Hid judge; rw [if_neg (by simp), if_neg (by omega), if_neg hs]
                    have HL : Hid (true = less mi ms mi s) := by unfold Hid less; rw [decide_eq_true (by omega)]
                    clear hs
                    go_wp2_with fail
                    refine (judge_any true mi ms mi s 2 _ HJ.out).mono ?_
                    rintro e w' ⟨rfl, rfl⟩
                    go_wp2_with fail
                    refine (less_any mi ms mi s true _ HL.out).mono ?_
                    rintro e w' ⟨rfl, rfl⟩
                    go_wp2_with fail
                    refine (rise_any _ 2 _ rfl).mono ?_
                    rintro e w' ⟨rfl, rfl⟩
                    go_wp2_with fail
                    refine (newOrder _ _ _ _).mono ?_
                    rintro e w' ⟨rfl, rfl⟩
                    go_wp2
                    go_roundw
                    case rel => exact ⟨true, mi, s, k + 1, by omega, rfl, rfl, rfl, by go_num, ((HO.out.put mi s).kept _).kept _, by have := HB.out; go_grown⟩
                    case measure => simp [intOf]; omega
                · have he : (i == mi) = false := by simp; omega
                  have HJ : Hid ((0 : Int) = judge true mi ms i s) := by unfold Hid judge; rw [if_neg (by simp; omega), if_pos hh]
                  have HL : Hid (false = less mi ms i s) := by unfold Hid less; rw [decide_eq_false (by omega)]
                  clear hh
                  go_wp2_with fail
                  refine (judge_any true mi ms i s 0 _ HJ.out).mono ?_
                  rintro e w' ⟨rfl, rfl⟩
                  go_wp2_with fail
                  refine (less_any mi ms i s false _ HL.out).mono ?_
                  rintro e w' ⟨rfl, rfl⟩
                  go_wp2_with fail
                  refine (fall_any _ 0 _ rfl).mono ?_
                  rintro e w' ⟨rfl, rfl⟩
                  go_wp2
                  go_roundw
                  case rel => exact ⟨true, mi, ms, k + 1, by omega, rfl, rfl, rfl, by go_num, HO.out.kept _, by have := HB.out; go_grown⟩
                  case measure => simp [intOf]; omega
            · clear hO hB
              go_wp2
              go_ret
              exact ⟨rfl, HB.out⟩
        · go_wp2_with fail
          refine (newOrder _ _ _ _).mono ?_
          rintro e w' ⟨rfl, rfl⟩
          go_wp2
          obtain ⟨B, hB0⟩ : ∃ B, B = w.heap.size + 1 := ⟨_, rfl⟩
          have HBB : Hid (B = w.heap.size + 1) := hB0
          have hBB : w.heap.size ≤ B := by omega
          rw [← hB0]
          clear hB0
          go_loopw [13, 14, 15, 16] (fun v h1 h2 c wr => ∃ (h : Bool) (mi ms : Int) (k : Nat), k ≤ len3 ∧ v = .bool h ∧ h1 = .int .i64 mi ∧ h2 = .int .i64 ms ∧ c = .int .i64 k ∧ OrdAt wr B h mi ms ∧ Below w.heap.size w wr) (fun _ _ _ c _ => len3 - (intOf c).toNat)
          case atStart => exact ⟨false, 0, 0, 0, Nat.zero_le _, rfl, rfl, rfl, rfl, heap_new _ _ _ (by rw [HBB.out]; simp), by go_grown⟩
          case round =>
            obtain ⟨h, mi, ms, k, hk, rfl, rfl, rfl, rfl, hO, hB⟩ := hrel
            have HO : Hid (OrdAt wr B h mi ms) := hO
            have HB : Hid (Below w.heap.size w wr) := hB
            by_cases hlt : k < len3
            · obtain ⟨b3, o3, i, rfl, c3⟩ := C3.out k (by omega)
              obtain ⟨b4, o4, s, rfl, c4⟩ := C4.out k (by omega)
              have g3 : wr.cell? ⟨b3, o3 + k, none⟩ = some (.int .i64 i) := (hB.cell (p := ⟨b3, o3 + k, none⟩) (block_lt_of_cell c3)).trans c3
              have g4 : wr.cell? ⟨b4, o4 + k, none⟩ = some (.int .i64 s) := (hB.cell (p := ⟨b4, o4 + k, none⟩) (block_lt_of_cell c4)).trans c4
              have q0 : wr.cell? ⟨B, 0, none⟩ = some (.bool h) := cell_of_block hO rfl
              have q1 : wr.cell? ⟨B, 1, none⟩ = some (.int .i64 mi) := cell_of_block hO rfl
              have q2 : wr.cell? ⟨B, 2, none⟩ = some (.int .i64 ms) := cell_of_block hO rfl
              have f0 := frozen_of_block hO 0
              have f1 := frozen_of_block hO 1
              have f2 := frozen_of_block hO 2
              have hsz : B < wr.heap.size := lt_of_heap hO
              have hsz1 : B < wr.heap.size + 1 := by omega
              have hsz2 : B < wr.heap.size + 1 + 1 := by omega
              have hl3' : (k : Int) < (len3 : Int) := by omega
              have hl4' : (k : Int) < (len4 : Int) := by omega
              clear hO hB c3 c4 C3 C4
              cases h with
              | false =>
                have HJ : Hid ((3 : Int) = judge false mi ms i s) := by unfold Hid judge; rw [if_pos (Or.inl rfl)]
                go_wp2_with fail
                refine (judge_any false mi ms i s 3 _ HJ.out).mono ?_
                rintro e w' ⟨rfl, rfl⟩
                go_wp2_with fail
                refine (rise_any _ 3 _ rfl).mono ?_
                rintro e w' ⟨rfl, rfl⟩
                go_wp2_with fail
                refine (newOrder _ _ _ _).mono ?_
                rintro e w' ⟨rfl, rfl⟩
                go_wp2
                go_roundw
                case rel => exact ⟨true, i, s, k + 1, by omega, rfl, rfl, rfl, by go_num, ((HO.out.put i s).kept _).kept _, by have := HB.out; go_grown⟩
                case measure => simp [intOf]; omega
              | true =>
                rcases Int.lt_trichotomy mi i with hh | hh | hh
                · have he : (i == mi) = false := by simp; omega
                  have HJ : Hid ((3 : Int) = judge true mi ms i s) := by unfold Hid judge; rw [if_pos (Or.inr hh)]
                  have HL : Hid (true = less mi ms i s) := by unfold Hid less; rw [decide_eq_true (by omega)]
                  clear hh
                  go_wp2_with fail
                  refine (judge_any true mi ms i s 3 _ HJ.out).mono ?_
                  rintro e w' ⟨rfl, rfl⟩
                  go_wp2_with fail
                  refine (less_any mi ms i s true _ HL.out).mono ?_
                  rintro e w' ⟨rfl, rfl⟩
                  go_wp2_with fail
                  refine (rise_any _ 3 _ rfl).mono ?_
                  rintro e w' ⟨rfl, rfl⟩
                  go_wp2_with fail
                  refine (newOrder _ _ _ _).mono ?_
                  rintro e w' ⟨rfl, rfl⟩
                  go_wp2
                  go_roundw
                  case rel => exact ⟨true, i, s, k + 1, by omega, rfl, rfl, rfl, by go_num, ((HO.out.put i s).kept _).kept _, by have := HB.out; go_grown⟩
                  case measure => simp [intOf]; omega
                · subst hh
                  by_cases hs : s ≤ ms
                  · have HJ : Hid ((1 : Int) = judge true mi ms mi s) := by unfold Hid judge; rw [if_neg (by simp), if_neg (by omega), if_pos hs]
                    have HL : Hid (false = less mi ms mi s) := by unfold Hid less; rw [decide_eq_false (by omega)]
                    clear hs
                    go_wp2_with fail
                    refine (judge_any true mi ms mi s 1 _ HJ.out).mono ?_
                    rintro e w' ⟨rfl, rfl⟩
                    go_wp2_with fail
                    refine (less_any mi ms mi s false _ HL.out).mono ?_
                    rintro e w' ⟨rfl, rfl⟩
                    go_wp2_with fail
                    refine (fall_any _ 1 _ rfl).mono ?_
                    rintro e w' ⟨rfl, rfl⟩
                    go_wp2
                    go_roundw
                    case rel => exact ⟨true, mi, ms, k + 1, by omega, rfl, rfl, rfl, by go_num, HO.out.kept _, by have := HB.out; go_grown⟩
                    case measure => simp [intOf]; omega
                  · have HJ : Hid ((2 : Int) = judge true mi ms mi s) := by unfold Hid judge; rw [if_neg (by simp), if_neg (by omega), if_neg hs]
                    have HL : Hid (true = less mi ms mi s) := by unfold Hid less; rw [decide_eq_true (by omega)]
                    clear hs
                    go_wp2_with fail
                    refine (judge_any true mi ms mi s 2 _ HJ.out).mono ?_
                    rintro e w' ⟨rfl, rfl⟩
                    go_wp2_with fail
                    refine (less_any mi ms mi s true _ HL.out).mono ?_
                    rintro e w' ⟨rfl, rfl⟩
                    go_wp2_with fail
                    refine (rise_any _ 2 _ rfl).mono ?_
                    rintro e w' ⟨rfl, rfl⟩
                    go_wp2_with fail
                    refine (newOrder _ _ _ _).mono ?_
                    rintro e w' ⟨rfl, rfl⟩
                    go_wp2
                    go_roundw
                    case rel => exact ⟨true, mi, s, k + 1, by omega, rfl, rfl, rfl, by go_num, ((HO.out.put mi s).kept _).kept _, by have := HB.out; go_grown⟩
                    case measure => simp [intOf]; omega
                · have he : (i == mi) = false := by simp; omega
                  have HJ : Hid ((0 : Int) = judge true mi ms i s) := by unfold Hid judge; rw [if_neg (by simp; omega), if_pos hh]
                  have HL : Hid (false = less mi ms i s) := by unfold Hid less; rw [decide_eq_false (by omega)]
                  clear hh
                  go_wp2_with fail
                  refine (judge_any true mi ms i s 0 _ HJ.out).mono ?_
                  rintro e w' ⟨rfl, rfl⟩
                  go_wp2_with fail
                  refine (less_any mi ms i s false _ HL.out).mono ?_
                  rintro e w' ⟨rfl, rfl⟩
                  go_wp2_with fail
                  refine (fall_any _ 0 _ rfl).mono ?_
                  rintro e w' ⟨rfl, rfl⟩
                  go_wp2
                  go_roundw
                  case rel => exact ⟨true, mi, ms, k + 1, by omega, rfl, rfl, rfl, by go_num, HO.out.kept _, by have := HB.out; go_grown⟩
                  case measure => simp [intOf]; omega
            · clear hO hB
              go_wp2
              go_ret
              exact ⟨rfl, HB.out⟩
      · have hb : (a2 != 0) = true := by simpa using h2
        clear h2
        go_wp2
        go_ret
        exact ⟨rfl, Below.refl _ _⟩
    · have hb : (a1 != 0) = true := by simpa using h1
      clear h1
      go_wp2
      go_ret
      exact ⟨rfl, Below.refl _ _⟩
  | true =>
    by_cases hn : len4 < len3
    · go_wp2_with fail
      refine (newOrder _ _ _ _).mono ?_
      rintro e w' ⟨rfl, rfl⟩
      go_wp2
      obtain ⟨B, hB0⟩ : ∃ B, B = w.heap.size + 1 := ⟨_, rfl⟩
      have HBB : Hid (B = w.heap.size + 1) := hB0
      have hBB : w.heap.size ≤ B := by omega
      rw [← hB0]
      clear hB0
      go_loopw [13, 14, 15, 16] (fun v h1 h2 c wr => ∃ (h : Bool) (mi ms : Int) (k : Nat), k ≤ len4 ∧ v = .bool h ∧ h1 = .int .i64 mi ∧ h2 = .int .i64 ms ∧ c = .int .i64 k ∧ OrdAt wr B h mi ms ∧ Below w.heap.size w wr) (fun _ _ _ c _ => len4 - (intOf c).toNat)
      case atStart => exact ⟨true, a1, a2, 0, Nat.zero_le _, rfl, rfl, rfl, rfl, heap_new _ _ _ (by rw [HBB.out]; simp), by go_grown⟩
      case round =>
        obtain ⟨h, mi, ms, k, hk, rfl, rfl, rfl, rfl, hO, hB⟩ := hrel
        have HO : Hid (OrdAt wr B h mi ms) := hO
        have HB : Hid (Below w.heap.size w wr) := hB
        by_cases hlt : k < len4
        · obtain ⟨b3, o3, i, rfl, c3⟩ := C3.out k (by omega)
          obtain ⟨b4, o4, s, rfl, c4⟩ := C4.out k (by omega)
          have g3 : wr.cell? ⟨b3, o3 + k, none⟩ = some (.int .i64 i) := (hB.cell (p := ⟨b3, o3 + k, none⟩) (block_lt_of_cell c3)).trans c3
          have g4 : wr.cell? ⟨b4, o4 + k, none⟩ = some (.int .i64 s) := (hB.cell (p := ⟨b4, o4 + k, none⟩) (block_lt_of_cell c4)).trans c4
          have q0 : wr.cell? ⟨B, 0, none⟩ = some (.bool h) := cell_of_block hO rfl
          have q1 : wr.cell? ⟨B, 1, none⟩ = some (.int .i64 mi) := cell_of_block hO rfl
          have q2 : wr.cell? ⟨B, 2, none⟩ = some (.int .i64 ms) := cell_of_block hO rfl
          have f0 := frozen_of_block hO 0
          have f1 := frozen_of_block hO 1
          have f2 := frozen_of_block hO 2
          have hsz : B < wr.heap.size := lt_of_heap hO
          have hsz1 : B < wr.heap.size + 1 := by omega
          have hsz2 : B < wr.heap.size + 1 + 1 := by omega
          have hl3' : (k : Int) < (len3 : Int) := by omega
          have hl4' : (k : Int) < (len4 : Int) := by omega
          clear hO hB c3 c4 C3 C4
          cases h with
          | false =>
            have HJ : Hid ((3 : Int) = judge false mi ms i s) := by unfold Hid judge; rw [if_pos (Or.inl rfl)]
            go_wp2_with fail
            refine (judge_any false mi ms i s 3 _ HJ.out).mono ?_
            rintro e w' ⟨rfl, rfl⟩
            go_wp2_with fail
            refine (rise_any _ 3 _ rfl).mono ?_
            rintro e w' ⟨rfl, rfl⟩
            go_wp2_with fail
            refine (newOrder _ _ _ _).mono ?_
            rintro e w' ⟨rfl, rfl⟩
            go_wp2
            go_roundw
            case rel => exact ⟨true, i, s, k + 1, by omega, rfl, rfl, rfl, by go_num, ((HO.out.put i s).kept _).kept _, by have := HB.out; go_grown⟩
            case measure => simp [intOf]; omega
          | true =>
            rcases Int.lt_trichotomy mi i with hh | hh | hh
            · have he : (i == mi) = false := by simp; omega
              have HJ : Hid ((3 : Int) = judge true mi ms i s) := by unfold Hid judge; rw [if_pos (Or.inr hh)]
              have HL : Hid (true = less mi ms i s) := by unfold Hid less; rw [decide_eq_true (by omega)]
              clear hh
              go_wp2_with fail
              refine (judge_any true mi ms i s 3 _ HJ.out).mono ?_
              rintro e w' ⟨rfl, rfl⟩
              go_wp2_with fail
              refine (less_any mi ms i s true _ HL.out).mono ?_
              rintro e w' ⟨rfl, rfl⟩
              go_wp2_with fail
              refine (rise_any _ 3 _ rfl).mono ?_
              rintro e w' ⟨rfl, rfl⟩
              go_wp2_with fail
              refine (newOrder _ _ _ _).mono ?_
              rintro e w' ⟨rfl, rfl⟩
              go_wp2
              go_roundw
              case rel => exact ⟨true, i, s, k + 1, by omega, rfl, rfl, rfl, by go_num, ((HO.out.put i s).kept _).kept _, by have := HB.out; go_grown⟩
              case measure => simp [intOf]; omega
            · subst hh
              by_cases hs : s ≤ ms
              · have HJ : Hid ((1 : Int) = judge true mi ms mi s) := by unfold Hid judge; rw [if_neg (by simp), if_neg (by omega), if_pos hs]
                have HL : Hid (false = less mi ms mi s) := by unfold Hid less; rw [decide_eq_false (by omega)]
                clear hs
                go_wp2_with fail
                refine (judge_any true mi ms mi s 1 _ HJ.out).mono ?_
                rintro e w' ⟨rfl, rfl⟩
                go_wp2_with fail
                refine (less_any mi ms mi s false _ HL.out).mono ?_
                rintro e w' ⟨rfl, rfl⟩
                go_wp2_with fail
                refine (fall_any _ 1 _ rfl).mono ?_
                rintro e w' ⟨rfl, rfl⟩
                go_wp2
                go_roundw
                case rel => exact ⟨true, mi, ms, k + 1, by omega, rfl, rfl, rfl, by go_num, HO.out.kept _, by have := HB.out; go_grown⟩
                case measure => simp [intOf]; omega
              · have HJ : Hid ((2 : Int) = judge true mi ms mi s) := by unfold Hid judge; rw [if_neg (by simp), if_neg (by omega), if_neg hs]
                have HL : Hid (true = less mi ms mi s) := by unfold Hid less; rw [decide_eq_true (by omega)]
                clear hs
                go_wp2_with fail
                refine (judge_any true mi ms mi s 2 _ HJ.out).mono ?_
                rintro e w' ⟨rfl, rfl⟩
                go_wp2_with fail
                refine (less_any mi ms mi s true _ HL.out).mono ?_
                rintro e w' ⟨rfl, rfl⟩
                go_wp2_with fail
                refine (rise_any _ 2 _ rfl).mono ?_
                rintro e w' ⟨rfl, rfl⟩
                go_wp2_with fail
                refine (newOrder _ _ _ _).mono ?_
                rintro e w' ⟨rfl, rfl⟩
                go_wp2
                go_roundw
                case rel => exact ⟨true, mi, s, k + 1, by omega, rfl, rfl, rfl, by go_num, ((HO.out.put mi s).kept _).kept _, by have := HB.out; go_grown⟩
                case measure => simp [intOf]; omega
            · have he : (i == mi) = false := by simp; omega
              have HJ : Hid ((0 : Int) = judge true mi ms i s) := by unfold Hid judge; rw [if_neg (by simp; omega), if_pos hh]
              have HL : Hid (false = less mi ms i s) := by unfold Hid less; rw [decide_eq_false (by omega)]
              clear hh
              go_wp2_with fail
              refine (judge_any true mi ms i s 0 _ HJ.out).mono ?_
              rintro e w' ⟨rfl, rfl⟩
              go_wp2_with fail
              refine (less_any mi ms i s false _ HL.out).mono ?_
              rintro e w' ⟨rfl, rfl⟩
              go_wp2_with fail
              refine (fall_any _ 0 _ rfl).mono ?_
              rintro e w' ⟨rfl, rfl⟩
              go_wp2
              go_roundw
              case rel => exact ⟨true, mi, ms, k + 1, by omega, rfl, rfl, rfl, by go_num, HO.out.kept _, by have := HB.out; go_grown⟩
              case measure => simp [intOf]; omega
        · clear hO hB
          go_wp2
          go_ret
          exact ⟨rfl, HB.out⟩
    · go_wp2_with fail
      refine (newOrder _ _ _ _).mono ?_
      rintro e w' ⟨rfl, rfl⟩
      go_wp2
      obtain ⟨B, hB0⟩ : ∃ B, B = w.heap.size + 1 := ⟨_, rfl⟩
      have HBB : Hid (B = w.heap.size + 1) := hB0
      have hBB : w.heap.size ≤ B := by omega
      rw [← hB0]
      clear hB0
      go_loopw [13, 14, 15, 16] (fun v h1 h2 c wr => ∃ (h : Bool) (mi ms : Int) (k : Nat), k ≤ len3 ∧ v = .bool h ∧ h1 = .int .i64 mi ∧ h2 = .int .i64 ms ∧ c = .int .i64 k ∧ OrdAt wr B h mi ms ∧ Below w.heap.size w wr) (fun _ _ _ c _ => len3 - (intOf c).toNat)
      case atStart => exact ⟨true, a1, a2, 0, Nat.zero_le _, rfl, rfl, rfl, rfl, heap_new _ _ _ (by rw [HBB.out]; simp), by go_grown⟩
      case round =>
        obtain ⟨h, mi, ms, k, hk, rfl, rfl, rfl, rfl, hO, hB⟩ := hrel
        have HO : Hid (OrdAt wr B h mi ms) := hO
        have HB : Hid (Below w.heap.size w wr) := hB
        by_cases hlt : k < len3
        · obtain ⟨b3, o3, i, rfl, c3⟩ := C3.out k (by omega)
          obtain ⟨b4, o4, s, rfl, c4⟩ := C4.out k (by omega)
          have g3 : wr.cell? ⟨b3, o3 + k, none⟩ = some (.int .i64 i) := (hB.cell (p := ⟨b3, o3 + k, none⟩) (block_lt_of_cell c3)).trans c3
          have g4 : wr.cell? ⟨b4, o4 + k, none⟩ = some (.int .i64 s) := (hB.cell (p := ⟨b4, o4 + k, none⟩) (block_lt_of_cell c4)).trans c4
          have q0 : wr.cell? ⟨B, 0, none⟩ = some (.bool h) := cell_of_block hO rfl
          have q1 : wr.cell? ⟨B, 1, none⟩ = some (.int .i64 mi) := cell_of_block hO rfl
          have q2 : wr.cell? ⟨B, 2, none⟩ = some (.int .i64 ms) := cell_of_block hO rfl
          have f0 := frozen_of_block hO 0
          have f1 := frozen_of_block hO 1
          have f2 := frozen_of_block hO 2
          have hsz : B < wr.heap.size := lt_of_heap hO
          have hsz1 : B < wr.heap.size + 1 := by omega
          have hsz2 : B < wr.heap.size + 1 + 1 := by omega
          have hl3' : (k : Int) < (len3 : Int) := by omega
          have hl4' : (k : Int) < (len4 : Int) := by omega
          clear hO hB c3 c4 C3 C4
          cases h with
          | false =>
            have HJ : Hid ((3 : Int) = judge false mi ms i s) := by unfold Hid judge; rw [if_pos (Or.inl rfl)]
            go_wp2_with fail
            refine (judge_any false mi ms i s 3 _ HJ.out).mono ?_
            rintro e w' ⟨rfl, rfl⟩
            go_wp2_with fail
            refine (rise_any _ 3 _ rfl).mono ?_
            rintro e w' ⟨rfl, rfl⟩
            go_wp2_with fail
            refine (newOrder _ _ _ _).mono ?_
            rintro e w' ⟨rfl, rfl⟩
            go_wp2
            go_roundw
            case rel => exact ⟨true, i, s, k + 1, by omega, rfl, rfl, rfl, by go_num, ((HO.out.put i s).kept _).kept _, by have := HB.out; go_grown⟩
            case measure => simp [intOf]; omega
          | true =>
            rcases Int.lt_trichotomy mi i with hh | hh | hh
            · have he : (i == mi) = false := by simp; omega
              have HJ : Hid ((3 : Int) = judge true mi ms i s) := by unfold Hid judge; rw [if_pos (Or.inr hh)]
              have HL : Hid (true = less mi ms i s) := by unfold Hid less; rw [decide_eq_true (by omega)]
              clear hh
              go_wp2_with fail
              refine (judge_any true mi ms i s 3 _ HJ.out).mono ?_
              rintro e w' ⟨rfl, rfl⟩
              go_wp2_with fail
              refine (less_any mi ms i s true _ HL.out).mono ?_
              rintro e w' ⟨rfl, rfl⟩
              go_wp2_with fail
              refine (rise_any _ 3 _ rfl).mono ?_
              rintro e w' ⟨rfl, rfl⟩
              go_wp2_with fail
              refine (newOrder _ _ _ _).mono ?_
              rintro e w' ⟨rfl, rfl⟩
              go_wp2
              go_roundw
              case rel => exact ⟨true, i, s, k + 1, by omega, rfl, rfl, rfl, by go_num, ((HO.out.put i s).kept _).kept _, by have := HB.out; go_grown⟩
              case measure => simp [intOf]; omega
            · subst hh
              by_cases hs : s ≤ ms
              · have HJ : Hid ((1 : Int) = judge true mi ms mi s) := by unfold Hid judge; rw [if_neg (by simp), if_neg (by omega), if_pos hs]
                have HL : Hid (false = less mi ms mi s) := by unfold Hid less; rw [decide_eq_false (by omega)]
                clear hs
                go_wp2_with fail
                refine (judge_any true mi ms mi s 1 _ HJ.out).mono ?_
                rintro e w' ⟨rfl, rfl⟩
                go_wp2_with fail
                refine (less_any mi ms mi s false _ HL.out).mono ?_
                rintro e w' ⟨rfl, rfl⟩
                go_wp2_with fail
                refine (fall_any _ 1 _ rfl).mono ?_
                rintro e w' ⟨rfl, rfl⟩
                go_wp2
                go_roundw
                case rel => exact ⟨true, mi, ms, k + 1, by omega, rfl, rfl, rfl, by go_num, HO.out.kept _, by have := HB.out; go_grown⟩
                case measure => simp [intOf]; omega
              · have HJ : Hid ((2 : Int) = judge true mi ms mi s) := by unfold Hid judge; rw [if_neg (by simp), if_neg (by omega), if_neg hs]
                have HL : Hid (true = less mi ms mi s) := by unfold Hid less; rw [decide_eq_true (by omega)]
                clear hs
                go_wp2_with fail
                refine (judge_any true mi ms mi s 2 _ HJ.out).mono ?_
                rintro e w' ⟨rfl, rfl⟩
                go_wp2_with fail
                refine (less_any mi ms mi s true _ HL.out).mono ?_
                rintro e w' ⟨rfl, rfl⟩
                go_wp2_with fail
                refine (rise_any _ 2 _ rfl).mono ?_
                rintro e w' ⟨rfl, rfl⟩
                go_wp2_with fail
                refine (newOrder _ _ _ _).mono ?_
                rintro e w' ⟨rfl, rfl⟩
                go_wp2
                go_roundw
                case rel => exact ⟨true, mi, s, k + 1, by omega, rfl, rfl, rfl, by go_num, ((HO.out.put mi s).kept _).kept _, by have := HB.out; go_grown⟩
                case measure => simp [intOf]; omega
            · have he : (i == mi) = false := by simp; omega
              have HJ : Hid ((0 : Int) = judge true mi ms i s) := by unfold Hid judge; rw [if_neg (by simp; omega), if_pos hh]
              have HL : Hid (false = less mi ms i s) := by unfold Hid less; rw [decide_eq_false (by omega)]
              clear hh
              go_wp2_with fail
              refine (judge_any true mi ms i s 0 _ HJ.out).mono ?_
              rintro e w' ⟨rfl, rfl⟩
              go_wp2_with fail
              refine (less_any mi ms i s false _ HL.out).mono ?_
              rintro e w' ⟨rfl, rfl⟩
              go_wp2_with fail
              refine (fall_any _ 0 _ rfl).mono ?_
              rintro e w' ⟨rfl, rfl⟩
              go_wp2
              go_roundw
              case rel => exact ⟨true, mi, ms, k + 1, by omega, rfl, rfl, rfl, by go_num, HO.out.kept _, by have := HB.out; go_grown⟩
              case measure => simp [intOf]; omega
        · clear hO hB
          go_wp2
          go_ret
          exact ⟨rfl, HB.out⟩

/-! ### THE ROW's STEP: WRITTEN OUT: LEAVE IT -/
set_option maxRecDepth 100000 in
theorem lifted (os : Os) (started : os.Started) (H : Type) (enc : TypeId × Value → H) :
    ReturnsInHanded {} Try.checked os 4 .any (Rows.fnJudgeKeepsGreatestSpec.pre6 enc Try.prog Try.f4 Rows.fnJudgeKeepsGreatestRow.domain false) (Rows.fnJudgeKeepsGreatestSpec.post enc Try.prog Try.f4 false true false false) := by
  refine returnsInHanded_of_change (C := Try.checked) own started (by kernel_rfl) Try.func4
    (ChangeSpec.witness6 (enc := enc) (C := Try.checked) false ⟨#[], #[.bool false, .int .i64 0, .int .i64 0, .slice none 0 0, .slice none 0 0], []⟩ 8 (by kernel_rfl) (by kernel_rfl) (by kernel_rfl) (by kernel_rfl)) ?_
  intro W base args ds gs before hval0 hW hcnd _
  have hval : ∀ (j : Nat) t v, Try.f4.params[j]? = some t → args[j]? = some v → Value.okWide Try.prog W .any base t v := hval0
  have hW' := hW
  obtain ⟨p, q, hA0, hV, rfl, hfz, hnd⟩ := hW
  have hA : DataW.TrodAll enc Try.prog W 0 (fun _ => true) true Try.f4.params.toList args.toList ds p := hA0
  rw [Try.params4] at hA hval
  obtain ⟨v0, vs0, d0, ds0, p0, q0, hargs, rfl, rfl, h0, r0⟩ := trodAll_cons hA
  obtain ⟨v1, vs1, d1, ds1, p1, q1, rfl, rfl, rfl, h1, r1⟩ := trodAll_cons r0
  obtain ⟨v2, vs2, d2, ds2, p2, q2, rfl, rfl, rfl, h2, r2⟩ := trodAll_cons r1
  obtain ⟨v3, vs3, d3, ds3, p3, q3, rfl, rfl, rfl, h3, r3⟩ := trodAll_cons r2
  obtain ⟨v4, vs4, d4, ds4, p4, q4, rfl, rfl, rfl, h4, r4⟩ := trodAll_cons r3
  obtain ⟨rfl, rfl, rfl⟩ := trodAll_nil r4
  obtain rfl : args = #[v0, v1, v2, v3, v4] := by cases args; simp_all
  obtain ⟨rfl, rfl⟩ := trodVars_none hV
  obtain ⟨a0, rfl, rfl, rfl⟩ := open_bool Try.underlying4 (hval 0 4 v0 rfl rfl) h0
  obtain ⟨a1, rfl, rfl, rfl, w1⟩ := open_int Try.underlying2 (hval 1 2 v1 rfl rfl) h1
  obtain ⟨a2, rfl, rfl, rfl, w2⟩ := open_int Try.underlying2 (hval 2 2 v2 rfl rfl) h2
  obtain ⟨a3, len3, cap3, rfl⟩ := okWide_slice Try.underlying30 (hval 3 30 v3 rfl rfl)
  have k3 := h3
  have lt3 : ∀ x ∈ p3, x.block < W.heap.size := by obtain ⟨m, hm⟩ := k3; exact DataW.trod_lt m _ _ _ hm
  obtain ⟨z3, w3⟩ : ∃ zs, IsRow .i64 W a3 len3 cap3 zs := by
    obtain ⟨fuel, hf⟩ := h3
    rcases open_ints Try.underlying30 Try.underlying2 (by kernel_rfl) hf with ⟨hcs, _⟩ | ⟨x, l, c, zs, hcs, _, hl, hm, hz, _, hcell, hwz⟩
    · simp [Value.cells] at hcs
      obtain ⟨rfl, rfl, rfl⟩ := hcs
      exact ⟨[], .inl ⟨rfl, rfl, rfl, rfl⟩⟩
    · simp [Value.cells] at hcs
      obtain ⟨rfl, rfl, rfl⟩ := hcs
      exact ⟨zs, .inr ⟨_, rfl, hl, hm, by simpa using hz, hcell, hwz⟩⟩
  obtain ⟨a4, len4, cap4, rfl⟩ := okWide_slice Try.underlying30 (hval 4 30 v4 rfl rfl)
  have k4 := h4
  have lt4 : ∀ x ∈ p4, x.block < W.heap.size := by obtain ⟨m, hm⟩ := k4; exact DataW.trod_lt m _ _ _ hm
  obtain ⟨z4, w4⟩ : ∃ zs, IsRow .i64 W a4 len4 cap4 zs := by
    obtain ⟨fuel, hf⟩ := h4
    rcases open_ints Try.underlying30 Try.underlying2 (by kernel_rfl) hf with ⟨hcs, _⟩ | ⟨x, l, c, zs, hcs, _, hl, hm, hz, _, hcell, hwz⟩
    · simp [Value.cells] at hcs
      obtain ⟨rfl, rfl, rfl⟩ := hcs
      exact ⟨[], .inl ⟨rfl, rfl, rfl, rfl⟩⟩
    · simp [Value.cells] at hcs
      obtain ⟨rfl, rfl, rfl⟩ := hcs
      exact ⟨zs, .inr ⟨_, rfl, hl, hm, by simpa using hz, hcell, hwz⟩⟩
  clear hA0 hval0
  refine (walk a0 a1 a2 a3 len3 cap3 z3 a4 len4 cap4 z4 W w1 w2 w3 w4).mono fun e W' ⟨he, bel⟩ => ?_
  subst he
  exact ⟨_, rfl, _, _, _, [], _, [], hW', trodAll_mk1 (shut_bool Try.underlying4 _), (trodAll_cons_mk (shut_bool Try.underlying4 _) (trodAll_cons_mk (shut_int Try.underlying2 w1) (trodAll_cons_mk (shut_int Try.underlying2 w2) (trodAll_cons_mk (Below.trod laidOut (by kernel_rfl) (of_decide_eq_true (by kernel_rfl)) k3 bel lt3) (trodAll_cons_mk (Below.trod laidOut (by kernel_rfl) (of_decide_eq_true (by kernel_rfl)) k4 bel lt4) trodAll_mk0))))), rfl, bel.frame _, fun h => by cases h⟩

theorem over : Rows.fnJudgeKeepsGreatestRow.holds Try.pinned (OpenSpec.ofChange Rows.fnJudgeKeepsGreatestSpec) :=
  OpenClaim.holds_of_wide 4 Try.f4 rfl rfl rfl rfl rfl rfl rfl ⟨rfl, rfl, rfl, rfl, rfl⟩ rfl rfl rfl rfl rfl (by kernel_rfl) Try.func4 (by kernel_rfl)
    (of_decide_eq_true (by kernel_rfl)) (by unfold Func.isWrapper; first | (rw [if_pos (by decide +kernel)]; kernel_rfl) | (rw [if_neg (by decide +kernel)]; exact ⟨rfl, rfl⟩))
    (fun os started H enc _ => lifted os started H enc)

/-- ████ THE STATEMENT ████ -/
theorem proved : Rows.FnJudgeKeepsGreatestSaid := over
end Go.Proofs.Qxb6626515a.fnJudgeKeepsGreatest
