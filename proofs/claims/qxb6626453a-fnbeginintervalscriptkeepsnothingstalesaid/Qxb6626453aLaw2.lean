/-
  FnBeginIntervalScriptKeepsNothingStale: the walk.
-/
import Derived.Test.Qxb6626453aLawD
import Derived.Deep.RegionHeld3
namespace Go.Proofs.Qxb6626453a
open Go.ChangeShapes Go.WideShapes Go.ChangeAt Go.RowKit

theorem leadEpoch (b l : Nat) (x : Int) (w : World) (c6 : w.cell? ⟨b, 6, none⟩ = some (.pointer (some ⟨l, 0, none⟩))) (c0 : w.cell? ⟨l, 0, none⟩ = some (.int .u64 x)) :
    Calls Try.prog 19 #[.pointer (some ⟨b, 0, none⟩)] w fun e w' => e = .returned (.int .u64 x) ∧ w' = w := by
  go_enter Try.func19, Try.ntmps19
  go_wp2
  go_ret
  exact ⟨rfl, rfl⟩

set_option maxHeartbeats 8000000 in
set_option maxRecDepth 100000 in
theorem law2 (X : St) (va vk : Value) (ep : Option Addr) (ne ce : Nat) (E : Nat → Int) (w : World) (ok : X.Ok) (hne : ne ≤ maxLen) (ha : Row w va X.na (fun i => .string (X.S i))) (hk : Row w vk X.nk (fun i => .bool (X.K i)))
    (he : Row w (.slice ep ne ce) ne (fun i => .int .u64 (E i))) :
    Calls Try.prog 4 #[stVal X va vk, .slice ep ne ce] w (LawPost w) := by
  have HA : Hid (Row w va X.na (fun i => .string (X.S i))) := ha
  have HK : Hid (Row w vk X.nk (fun i => .bool (X.K i))) := hk
  have HE : Hid (Row w (.slice ep ne ce) ne (fun i => .int .u64 (E i))) := he
  obtain ⟨a, ca, rfl, ha⟩ := ha
  obtain ⟨k, ck, rfl, hk⟩ := hk
  clear ha hk he
  unfold stVal
  go_enter Try.func4, Try.ntmps4
  go_wp2_with fail
  refine (zzBytes2 X _ _ _ ep ne ce hne ok (HA.out.later ?_) (HK.out.later ?_)).mono ?_
  · go_grown
  · go_grown
  rintro e w1 ⟨r, rfl, hsz, hb1⟩
  have hx := (Box.new w X (.slice a X.na ca) (.slice k X.nk ck)).later hb1
  have hw1 : After w w1 := below_step ((Below.refl _ _).alloc (Nat.le_refl _) _) hb1
  have HX : Hid (Box w1 w.heap.size X (.slice a X.na ca) (.slice k X.nk ck)) := hx
  obtain ⟨c0, c1, c2, c3, c4, c5, c6, c7, c8, c9, c10, c11, c12, c13, f11, f12⟩ := hx.cells
  clear hx hb1
  cases r with
  | false =>
    go_wp2
    go_ret
    exact ⟨rfl, hw1⟩
  | true =>
  obtain ⟨hna, hnk⟩ := hsz rfl
  clear hsz
  go_wp2_with fail
  refine (stateBytesB X _ _ _ ok (HA.out.later hw1) (HK.out.later hw1)).mono ?_
  rintro e w2 ⟨n, rfl, hn0, hn1, hb2⟩
  clear c0 c1 c2 c3 c4 c5 c6 c7 c8 c9 c10 c11 c12 c13 f11 f12
  have hx := HX.out.later hb2
  have hw2 : After w w2 := after_below hw1 hb2
  have HX2 : Hid (Box w2 w.heap.size X (.slice a X.na ca) (.slice k X.nk ck)) := hx
  obtain ⟨c0, c1, c2, c3, c4, c5, c6, c7, c8, c9, c10, c11, c12, c13, f11, f12⟩ := hx.cells
  clear hx hb2 HX hw1 w1
  by_cases hn : 1048576 < n
  · go_wp2_with fail
    go_ret
    exact ⟨rfl, hw2⟩
  by_cases hn2 : 131072 < ne
  · go_wp2_with fail
    go_ret
    exact ⟨rfl, hw2⟩
  by_cases hn3 : 1048576 < n + 8 * (ne : Int)
  · go_wp2_with fail
    go_ret
    exact ⟨rfl, hw2⟩
  have b1 : decide (1048576 < n) = false := decide_eq_false hn
  have b2 : decide ((131072 : Int) < (ne : Int)) = false := decide_eq_false (by omega)
  have b3 : decide (1048576 < n + 8 * (ne : Int)) = false := decide_eq_false hn3
  replace hn2 : ne ≤ 131072 := by omega
  go_wp2_with fail
  clear b1 b2 b3 hn hn0 hn1 hn3
  refine (reachable X _ _ _ (HA.out.later hw2) (HK.out.later hw2)).mono ?_
  rintro e w3 ⟨r, rfl, hreach, hb3⟩
  clear c0 c1 c2 c3 c4 c5 c6 c7 c8 c9 c10 c11 c12 c13 f11 f12
  have hx := HX2.out.later hb3
  have hw3 : After w w3 := after_below hw2 hb3
  have HX3 : Hid (Box w3 w.heap.size X (.slice a X.na ca) (.slice k X.nk ck)) := hx
  obtain ⟨c0, c1, c2, c3, c4, c5, c6, c7, c8, c9, c10, c11, c12, c13, f11, f12⟩ := hx.cells
  clear hx hb3 HX2 hw2 w2
  cases r with
  | false =>
    clear hreach
    go_wp2_with fail
    go_ret
    exact ⟨rfl, hw3⟩
  | true =>
  have HR : Hid ((X.hl = true → X.nk = X.na ∧ X.bg ≤ X.le) ∧ (X.ho = true → X.bg ≤ X.oe)) := hreach rfl
  clear hreach
  go_wp2_with fail
  refine (cloneStrings _ X.na X.S _ hna (HA.out.later hw3)).mono ?_
  rintro e w4 ⟨v1, rfl, ⟨a1, d1, rfl, hr1⟩, hb4⟩
  have HR1 : Hid (RowIn w4 w3.heap.size w4.heap.size (.slice a1 X.na d1) X.na (fun i => .string (X.S i))) := ⟨a1, d1, rfl, hr1⟩
  clear c0 c1 c2 c3 c4 c5 c6 c7 c8 c9 c10 c11 c12 c13 f11 f12
  obtain ⟨c0, c1, c2, c3, c4, c5, c6, c7, c8, c9, c10, c11, c12, c13, f11, f12⟩ := (HX3.out.later hb4).cells
  have hw4 : After w w4 := after_below hw3 hb4
  have HB4 : Hid (Below w3.heap.size w3 w4) := hb4
  clear hr1 hb4
  go_wp2_with fail
  refine (cloneBools _ X.nk X.K _ hnk (HK.out.later (hw4.out.setCell (Nat.le_refl _) _))).mono ?_
  rintro e w5 ⟨v2, rfl, ⟨a2, d2, rfl, hr2⟩, hb5⟩
  have hb5' : Below w4.heap.size (w4.setCell ⟨w.heap.size, 11, none⟩ (.slice a1 X.na d1)) w5 := by simpa using hb5
  have hrdy := ready_of hw3 HX3.out HR1.out HB4.out ⟨a2, d2, rfl, by simpa using hr2⟩ hb5'
  have HY : Hid (Ready w (w5.setCell ⟨w.heap.size, 12, none⟩ (.slice a2 X.nk d2)) X (.slice a1 X.na d1) (.slice a2 X.nk d2)) := hrdy
  clear c0 c1 c2 c3 c4 c5 c6 c7 c8 c9 c10 c11 c12 c13 f11 f12
  have hx5 := ((HX3.out.later HB4.out).set11 (.slice a1 X.na d1)).later hb5
  obtain ⟨c0, c1, c2, c3, c4, c5, c6, c7, c8, c9, c10, c11, c12, c13, f11, f12⟩ := hx5.cells
  clear hx5 hb5 hb5' hr2 hrdy
  go_wp2_with fail
  refine gen_calls (fun W => Ready w W X (.slice a1 X.na d1) (.slice a2 X.nk d2)) HY.out ?_
  intro W0 hY
  clear c0 c1 c2 c3 c4 c5 c6 c7 c8 c9 c10 c11 c12 c13 f11 f12 HY HB4 HR1 hw4 HX3 hw3 w4 w5 w3 HA HK
  have hsize : w.heap.size < W0.heap.size := lt_of_heap hY.box
  refine (build X _ _ _ hna hnk hY.r1 hY.r2).mono ?_
  rintro e wa ⟨ba, rfl, ka, la, na0⟩
  have aa : After W0 wa := na0
  have hst := Held.start ka HR.out
  have HST : Hid (Held wa W0.heap.size ba X X.bg) := hst
  have hba : W0.heap.size ≤ ba := ka.lt.1
  clear ka la na0 hst
  obtain ⟨c0, c1, c2, c3, c4, c5, c6, c7, c8, c9, c10, c11, c12, c13, f11, f12⟩ := (hY.box.later aa).cells
  go_wp2
  clear c0 c1 c2 c3 c4 c5 c6 c7 c8 c9 c10 c11 c12 c13 f11 f12
  generalize Value.agg #[.string X.name, .int .u64 X.ml, .int .u64 X.mh, .int .u64 X.pl, .int .u64 X.ph, .bool X.ho, .int .u64 X.oe, .string X.fr, .string X.to, .bool X.hl, .int .u64 X.le, .slice a X.na ca, .slice k X.nk ck, .int .u64 X.bg] = q1
  generalize Value.agg #[.string X.name, .int .u64 X.ml, .int .u64 X.mh, .int .u64 X.pl, .int .u64 X.ph, .bool X.ho, .int .u64 X.oe, .string X.fr, .string X.to, .bool X.hl, .int .u64 X.le, .slice a1 X.na d1, .slice a2 X.nk d2, .int .u64 X.bg] = q2
  obtain ⟨N, hN⟩ : ∃ N, N = W0.heap.size := ⟨_, rfl⟩
  rw [← hN] at HST hba
  have HN : Hid (N = W0.heap.size) := hN
  clear hN
  go_loopw [7, 8] (fun v c wr => ∃ (run : Int) (k : Nat), k ≤ ne ∧ v = .int .u64 run ∧ c = .int .i64 k ∧ X.bg ≤ run ∧ Held wr N ba X run ∧ After W0 wr) (fun _ c _ => ne - (intOf c).toNat)
  case atStart => exact ⟨X.bg, 0, Nat.zero_le _, rfl, rfl, Int.le_refl _, HST.out, aa⟩
  case round =>
    obtain ⟨run, k, hk, rfl, rfl, hrun, hH, hA⟩ := hrel
    by_cases hlt : k < ne
    · obtain ⟨_, _, hv, hrow⟩ := HE.out
      cases hv
      obtain ⟨be, oe0, rfl, hce⟩ := hrow (by omega)
      have hc := hce k hlt
      clear hrow hce
      have hx : wr.cell? ⟨be, oe0 + k, none⟩ = some (.int .u64 (E k)) := cell_on hc (below_step hY.after hA)
      have hlt' : (k : Int) < (ne : Int) := by omega
      go_wp2_with fail
      clear hx
      refine (beginInterval X N ba (X.ho && decide (run ≤ X.oe)) (X.hl && decide (run ≤ X.le)) run (E k) wr hH).mono ?_
      rintro e w1 ⟨rfl, k1, g1⟩
      have A1 : After W0 w1 := after_grown hA g1 (by rw [← HN.out]; exact hba)
      obtain ⟨run', hr'⟩ : ∃ r, r = max run (E k) := ⟨_, rfl⟩
      have HRun : Hid (run' = max run (E k)) := hr'
      have hrun' : X.bg ≤ run' := by omega
      have h1 := Held.next hr' k1
      clear hr' k1 g1 hH hA
      have hx : w1.cell? ⟨be, oe0 + k, none⟩ = some (.int .u64 (E k)) := cell_on hc (below_step hY.after A1)
      go_wp2_with fail
      clear hx
      refine (max_m HRun.out w1).mono ?_
      rintro e w' ⟨rfl, hw'⟩
      replace hw' := hw'.symm
      subst hw'
      obtain ⟨c0, c1, c2, c3, c4, c5, c6, c7, c8, c9, c10, c11, c12, c13, f11, f12⟩ := (hY.box.later A1).cells
      clear c0 c1 c2 c3 c4 c7 c8 c11 c12 c13 f11 f12
      obtain ⟨po, pl, e5, e6, e7, hO1, hO0, hL1, hL0⟩ := Bk.reads h1
      have H1 : Hid (Held w1 N ba X run') := h1
      clear h1 hrun
      rcases Bool.eq_false_or_eq_true X.hl with hl | hl
      rotate_left
      · skip
        have hp := hL0 (by rw [hl]; rfl)
        subst hp
        rw [hl] at c9
        clear hl hL0 hL1
        rcases Bool.eq_false_or_eq_true X.ho with ho | ho
        rotate_left
        · skip
          have hp := hO0 (by rw [ho]; rfl)
          subst hp
          rw [ho] at c5
          clear ho hO0 hO1
          go_wp2_with (go_in)
          go_quiet (fail)
          go_wp2_with (go_in)
          go_quiet (fail)
          go_wp2_with (go_in)
          go_roundw
          case rel => exact ⟨run', k + 1, by omega, rfl, by go_num, hrun', by repeat (first | exact H1.out | refine Held.drewN ?_ _), by repeat (first | exact A1 | refine below_drewN ?_ _)⟩
          case measure => simp [intOf]; omega
        · skip
          rw [ho] at c5
          by_cases hoe : run' ≤ X.oe
          · obtain ⟨o, rfl, d0⟩ := hO1 (by rw [ho, decide_eq_true hoe]; rfl)
            clear ho hO0 hO1
            go_wp2_with (go_in)
            go_quiet (fail)
            go_wp2_with (go_in)
            go_quiet (fail)
            go_wp2_with (go_in)
            go_roundw
            case rel => exact ⟨run', k + 1, by omega, rfl, by go_num, hrun', by repeat (first | exact H1.out | refine Held.drewN ?_ _), by repeat (first | exact A1 | refine below_drewN ?_ _)⟩
            case measure => simp [intOf]; omega
          · have hp := hO0 (by rw [ho, decide_eq_false hoe]; rfl)
            subst hp
            replace hoe : X.oe < run' := by omega
            clear ho hO0 hO1
            go_wp2_with (go_in)
            go_quiet (fail)
            go_wp2_with (go_in)
            go_quiet (fail)
            go_wp2_with (go_in)
            go_roundw
            case rel => exact ⟨run', k + 1, by omega, rfl, by go_num, hrun', by repeat (first | exact H1.out | refine Held.drewN ?_ _), by repeat (first | exact A1 | refine below_drewN ?_ _)⟩
            case measure => simp [intOf]; omega
      · skip
        rw [hl] at c9
        by_cases hle : run' ≤ X.le
        · obtain ⟨l, rfl, g0⟩ := hL1 (by rw [hl, decide_eq_true hle]; rfl)
          clear hl hL0 hL1
          rcases Bool.eq_false_or_eq_true X.ho with ho | ho
          rotate_left
          · skip
            have hp := hO0 (by rw [ho]; rfl)
            subst hp
            rw [ho] at c5
            clear ho hO0 hO1
            go_wp2_with (go_in)
            go_quiet ((go_at_call 19; exact Calls.quiet_of_same (leadEpoch ba l X.le _ e6 g0)))
            go_wp2_with (go_in)
            go_quiet (fail)
            go_wp2_with (go_in)
            go_roundw
            case rel => exact ⟨run', k + 1, by omega, rfl, by go_num, hrun', by repeat (first | exact H1.out | refine Held.drewN ?_ _), by repeat (first | exact A1 | refine below_drewN ?_ _)⟩
            case measure => simp [intOf]; omega
          · skip
            rw [ho] at c5
            by_cases hoe : run' ≤ X.oe
            · obtain ⟨o, rfl, d0⟩ := hO1 (by rw [ho, decide_eq_true hoe]; rfl)
              clear ho hO0 hO1
              go_wp2_with (go_in)
              go_quiet ((go_at_call 19; exact Calls.quiet_of_same (leadEpoch ba l X.le _ e6 g0)))
              go_wp2_with (go_in)
              go_quiet (fail)
              go_wp2_with (go_in)
              go_roundw
              case rel => exact ⟨run', k + 1, by omega, rfl, by go_num, hrun', by repeat (first | exact H1.out | refine Held.drewN ?_ _), by repeat (first | exact A1 | refine below_drewN ?_ _)⟩
              case measure => simp [intOf]; omega
            · have hp := hO0 (by rw [ho, decide_eq_false hoe]; rfl)
              subst hp
              replace hoe : X.oe < run' := by omega
              clear ho hO0 hO1
              go_wp2_with (go_in)
              go_quiet ((go_at_call 19; exact Calls.quiet_of_same (leadEpoch ba l X.le _ e6 g0)))
              go_wp2_with (go_in)
              go_quiet (fail)
              go_wp2_with (go_in)
              go_roundw
              case rel => exact ⟨run', k + 1, by omega, rfl, by go_num, hrun', by repeat (first | exact H1.out | refine Held.drewN ?_ _), by repeat (first | exact A1 | refine below_drewN ?_ _)⟩
              case measure => simp [intOf]; omega
        · have hp := hL0 (by rw [hl, decide_eq_false hle]; rfl)
          subst hp
          replace hle : X.le < run' := by omega
          clear hl hL0 hL1
          rcases Bool.eq_false_or_eq_true X.ho with ho | ho
          rotate_left
          · skip
            have hp := hO0 (by rw [ho]; rfl)
            subst hp
            rw [ho] at c5
            clear ho hO0 hO1
            go_wp2_with (go_in)
            go_quiet (fail)
            go_wp2_with (go_in)
            go_quiet (fail)
            go_wp2_with (go_in)
            go_roundw
            case rel => exact ⟨run', k + 1, by omega, rfl, by go_num, hrun', by repeat (first | exact H1.out | refine Held.drewN ?_ _), by repeat (first | exact A1 | refine below_drewN ?_ _)⟩
            case measure => simp [intOf]; omega
          · skip
            rw [ho] at c5
            by_cases hoe : run' ≤ X.oe
            · obtain ⟨o, rfl, d0⟩ := hO1 (by rw [ho, decide_eq_true hoe]; rfl)
              clear ho hO0 hO1
              go_wp2_with (go_in)
              go_quiet (fail)
              go_wp2_with (go_in)
              go_quiet (fail)
              go_wp2_with (go_in)
              go_roundw
              case rel => exact ⟨run', k + 1, by omega, rfl, by go_num, hrun', by repeat (first | exact H1.out | refine Held.drewN ?_ _), by repeat (first | exact A1 | refine below_drewN ?_ _)⟩
              case measure => simp [intOf]; omega
            · have hp := hO0 (by rw [ho, decide_eq_false hoe]; rfl)
              subst hp
              replace hoe : X.oe < run' := by omega
              clear ho hO0 hO1
              go_wp2_with (go_in)
              go_quiet (fail)
              go_wp2_with (go_in)
              go_quiet (fail)
              go_wp2_with (go_in)
              go_roundw
              case rel => exact ⟨run', k + 1, by omega, rfl, by go_num, hrun', by repeat (first | exact H1.out | refine Held.drewN ?_ _), by repeat (first | exact A1 | refine below_drewN ?_ _)⟩
              case measure => simp [intOf]; omega
    · obtain ⟨kO, kL, oe, fr, to, le, na, nk, bg, sn⟩ := Snap.any X run
      have HBk : Hid (Bk wr.drew N ba X kO kL bg) := (hH.snap hrun sn).same (fun _ _ _ => rfl)
      have HX : Hid (Box wr w.heap.size X (.slice a1 X.na d1) (.slice a2 X.nk d2)) := hY.box.later hA
      have HAf : Hid (After W0 wr) := hA
      clear hH hA hrun
      go_wp2
      go_region_held3 (fun W => W.cell? ⟨w.heap.size, 0, none⟩ = some (.string X.name) ∧ W.cell? ⟨w.heap.size, 1, none⟩ = some (.int .u64 X.ml) ∧ W.cell? ⟨w.heap.size, 2, none⟩ = some (.int .u64 X.mh) ∧ W.cell? ⟨w.heap.size, 3, none⟩ = some (.int .u64 X.pl) ∧ W.cell? ⟨w.heap.size, 4, none⟩ = some (.int .u64 X.ph) ∧
          W.cell? ⟨w.heap.size, 5, none⟩ = some (.bool X.ho) ∧ W.cell? ⟨w.heap.size, 6, none⟩ = some (.int .u64 X.oe) ∧ W.cell? ⟨w.heap.size, 7, none⟩ = some (.string X.fr) ∧ W.cell? ⟨w.heap.size, 8, none⟩ = some (.string X.to) ∧ W.cell? ⟨w.heap.size, 9, none⟩ = some (.bool X.hl) ∧
          W.cell? ⟨w.heap.size, 10, none⟩ = some (.int .u64 X.le) ∧ W.cell? ⟨w.heap.size, 11, none⟩ = some (.slice a1 X.na d1) ∧ W.cell? ⟨w.heap.size, 12, none⟩ = some (.slice a2 X.nk d2) ∧ W.cell? ⟨w.heap.size, 13, none⟩ = some (.int .u64 X.bg) ∧ W.frozen? ⟨w.heap.size, 11, none⟩ = false ∧ W.frozen? ⟨w.heap.size, 12, none⟩ = false)
        (first | exact (HX.out.later (Below.refl _ _).drew).cells | exact ((HX.out.later (Below.refl _ _).drew).later hb1).cells | exact (((HX.out.later (Below.refl _ _).drew).later hb1).later hb2).cells | exact ((((HX.out.later (Below.refl _ _).drew).later hb1).later hb2).later hb3).cells)
        (first
          | (go_at_call 13; refine (sn.read HBk.out).mono ?_; rintro e w1 ⟨xa, xc, xk, xd, rfl, ra, rk, hb1⟩)
          | (go_at_call 15; refine (sn.expect (hY.r1.later (below_step HAf.out.drew hb1)) (hY.r2.later (below_step HAf.out.drew hb1))).mono ?_; rintro e w2 ⟨ya, yc, yk, yd, rfl, rya, ryk, hb2⟩)
          | (go_at_call 14; refine (eqSnap X kO oe fr to kL le bg na nk _ _ _ _ _ (sn.bna hna) (sn.bnk hnk) ((ra.row.later hb1).later hb2) ((rk.row.later hb1).later hb2) (rya.later hb2) (ryk.later hb2)).mono ?_; rintro e w3 ⟨rfl, hb3⟩))
      go_wp2
      go_ret
      exact ⟨rfl, below_step (below_step (below_step (below_step hY.after HAf.out.drew) hb1) hb2) hb3⟩
end Go.Proofs.Qxb6626453a
