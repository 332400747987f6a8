/-
  The law: one relation name more counts one more, or none.
-/
import Derived.Test.Qxb6626881aFill
import Derived.Test.Qxb6626881aSplit
namespace Go.Proofs.Qxb6626881a
open Go.ChangeShapes Go.WideShapes Go.ChangeAt Go.RowKit Go.Maps

theorem make22' (Q : Nat) (hQ : Q ≤ 9999) (W : World) : (Instr.makeSlice 22 (.int .i64 ((Q : Int) + 1)) (.int .i64 ((Q : Int) + 1))).run Try.prog W = .ok (.slice (some ⟨W.heap.size, 0, none⟩) (Q + 1) (Q + 1)) (W.alloc (.cells (madeCells #[.string ByteArray.empty] (Q + 1)) 9)) := make22 (Q + 1) (by omega) W

set_option maxRecDepth 100000 in
set_option maxHeartbeats 4000000 in
theorem lawInsert (vt vr : Value) (n m : Nat) (S : Nat → ByteArray) (ρ : Rel) (ci cp : Int) (name : ByteArray) (w : World) (hn : n ≤ maxLen) (hm : m ≤ maxLen) (hq : ∀ i, ρ.q i ≤ maxLen) (hS : ∀ i, (S i).size ≤ maxLen) (hR : ∀ i j, (ρ.Rn i j).size ≤ maxLen) (hname : name.size ≤ maxLen)
    (ht : Row w vt n (fun j => .string (S j))) (hr : RelRow w vr m ρ) :
    Calls Try.prog 4 #[vt, vr, .int .i64 ci, .int .i64 cp, .string name] w (TruePost w) := by
  have HT : Hid (Row w vt n (fun j => .string (S j))) := ht
  have HR : Hid (RelRow w vr m ρ) := hr
  have HQ : Hid (∀ i, ρ.q i ≤ maxLen) := hq
  have HS : Hid (∀ i, (S i).size ≤ maxLen) := hS
  have HRS : Hid (∀ i j, (ρ.Rn i j).size ≤ maxLen) := hR
  clear hq hS hR
  obtain ⟨a, ca, rfl, ht⟩ := ht
  obtain ⟨⟨a2, ca2, rfl, hr1⟩, hr2⟩ := hr
  clear hr2
  go_enter Try.func4, Try.ntmps4
  go_wp2_with fail
  refine (bytesInsert _ _ n m S ρ _ ci cp name hname hn hm HQ.out HS.out HRS.out HT.out HR.out).mono ?_
  rintro e w1 ⟨r, rfl, hw⟩
  subst w1
  cases r with
  | false =>
    go_wp2
    go_ret
    exact TruePost.mk' (Below.refl _ _)
  | true =>
    by_cases h1 : 4096 < n
    · go_wp2
      go_ret
      exact TruePost.mk' (Below.refl _ _)
    by_cases h2 : 4096 < m
    · go_wp2
      go_ret
      exact TruePost.mk' (Below.refl _ _)
    by_cases h2' : 4096 < name.size
    · go_wp2
      go_ret
      exact TruePost.mk' (Below.refl _ _)
    go_wp2_with fail
    refine (sizeOK _ _ n m S ρ _ _ hn hm HQ.out HS.out HRS.out HT.out HR.out).mono ?_
    rintro e w2 ⟨r, rfl, hqq, hw⟩
    subst w2
    cases r with
    | false =>
      go_wp2
      go_ret
      exact TruePost.mk' (Below.refl _ _)
    | true =>
      have HQ4 : Hid (∀ i, i < m → ρ.q i ≤ 4096) := hqq rfl
      clear hqq
      by_cases h3 : ci < 0
      · go_wp2
        go_ret
        exact TruePost.mk' (Below.refl _ _)
      by_cases h4 : (n : Int) ≤ ci
      · go_wp2
        go_ret
        exact TruePost.mk' (Below.refl _ _)
      by_cases h5 : (m : Int) ≤ ci
      · go_wp2
        go_ret
        exact TruePost.mk' (Below.refl _ _)
      obtain ⟨x, rfl⟩ := Int.eq_ofNat_of_zero_le (by omega : 0 ≤ ci)
      have hxn : x < n := by omega
      have hxm : x < m := by omega
      obtain ⟨b2, o2, rfl, hc2⟩ := hr1 (by omega)
      have hcx : w.cell? ⟨b2, o2 + x, none⟩ = some (.slice (ρ.ra x) (ρ.q x) (ρ.rc x)) := hc2 x hxm
      have HC2 : Hid (∀ i, i < m → w.cell? ⟨b2, o2 + i, none⟩ = some (ρ.val i)) := hc2
      have hq4 := HQ4.out x hxm
      clear hr1 hc2
      by_cases h6 : cp < 0
      · go_wp2
        go_ret
        exact TruePost.mk' (Below.refl _ _)
      by_cases h7 : (ρ.q x : Int) < cp
      · go_wp2
        go_ret
        exact TruePost.mk' (Below.refl _ _)
      obtain ⟨p, rfl⟩ := Int.eq_ofNat_of_zero_le (by omega : 0 ≤ cp)
      have hpq : p ≤ ρ.q x := by omega
      have hnn := fun (W : World) (a : Option Addr) (n c n' c' : Nat) => run_neq_slice_nil_any (P := Try.prog) W 22 9 a n c n' c' Try.underlying22
      go_upto_if 74 with fail
      go_cut [0] (fun v wx => ∃ a c, v = .slice a n c ∧ Row wx v n (fun j => .string (S j)) ∧ Below w.heap.size w wx)
      case first =>
        cases a with
        | none =>
          have hn0 : n = 0 := by
            rcases Nat.eq_zero_or_pos n with h | h
            · exact h
            · obtain ⟨b, off, h1, _⟩ := ht h
              cases h1
          omega
        | some a =>
          have hmk := make22 n (by omega)
          clear ht
          go_upto_region 13 with fail
          refine gen_world (fun W => Made w W 9 n) (Made.start _ _ _ _) ?_
          intro W hM
          obtain ⟨W', hcp, hrow, hb⟩ := copied 3 HT.out hM
          clear hM
          go_wp2
          go_meet
          exact ⟨_, _, rfl, hrow, hb⟩
      case rest =>
        obtain ⟨a', c', rfl, hrow, hB⟩ := hcut
        have HTc : Hid (Row wc (.slice a' n c') n (fun j => .string (S j))) := hrow
        have HRc : Hid (RelRow wc (.slice (some ⟨b2, o2, none⟩) m ca2) m ρ) := HR.out.later hB
        have hcx' := cell_on hcx hB
        have HC : Hid (∀ i, i < m → wc.cell? ⟨b2, o2 + i, none⟩ = some (ρ.val i)) := fun i hi => cell_on (HC2.out i hi) hB
        have HB : Hid (Below w.heap.size w wc) := hB
        clear hrow hB hcx ht hnn HC2
        have HX : Hid (Row wc (.slice (ρ.ra x) (ρ.q x) (ρ.rc x)) (ρ.q x) (fun j => .string (ρ.Rn x j))) := HRc.out.each x hxm
        obtain ⟨Q, hQ⟩ : ∃ Q, Q = ρ.q x := ⟨_, rfl⟩
        obtain ⟨A3, hA3⟩ : ∃ A3, A3 = ρ.ra x := ⟨_, rfl⟩
        obtain ⟨C3, hC3⟩ : ∃ C3, C3 = ρ.rc x := ⟨_, rfl⟩
        rw [← hQ, ← hA3, ← hC3] at hcx' HX
        rw [← hQ] at hq4 hpq
        have HEQ : Hid (Q = ρ.q x) := hQ
        clear hQ hA3 hC3 h7
        have HXR : Hid (0 < Q → ∃ b off, A3 = some ⟨b, off, none⟩ ∧ ∀ i, i < Q → wc.cell? ⟨b, off + i, none⟩ = some (.string (ρ.Rn x i))) := by
          obtain ⟨_, _, hv, h⟩ := HX.out
          cases hv
          exact h
        have hmk := make22' Q (by omega)
        go_wp2
        go_loopw [14] (fun z wr => ∃ j : Nat, j ≤ p ∧ z = .int .i64 j ∧ Filled wc wr 9 (Q + 1) j (fun i => .string (ins (ρ.Rn x) p name i))) (fun z _ => p - (intOf z).toNat)
        case atStart => exact ⟨0, by omega, rfl, Filled.start _ _ _ _ _⟩
        case round =>
          obtain ⟨j, hj, rfl, hF⟩ := hrel
          by_cases hjp : j < p
          · obtain ⟨b3, o3, hA, hc3⟩ := HXR.out (by omega)
            subst hA
            have g1 : wr.cell? ⟨b3, o3 + j, none⟩ = some (.string (ρ.Rn x j)) := cell_on (hc3 j (by omega)) hF.1
            obtain ⟨⟨v0, g2⟩, g3⟩ := hF.there j (by omega)
            have HF : Hid (Filled wc (wr.setCell ⟨wc.heap.size, j, none⟩ (.string (ρ.Rn x j))) 9 (Q + 1) (j + 1) (fun i => .string (ins (ρ.Rn x) p name i))) := hF.step (by omega) _ (by rw [ins_lt _ _ _ _ hjp])
            have hj1 : j < Q + 1 := by omega
            have hj2 : j < Q := by omega
            clear hc3 hF hmk
            go_wp2
            go_roundw
            case rel => exact ⟨j + 1, by omega, by go_num, HF.out⟩
            case measure => simp [intOf]; omega
          · have hjp' : p = j := by omega
            subst hjp'
            obtain ⟨⟨v0, g2⟩, g3⟩ := hF.there p (by omega)
            have HF : Hid (Filled wc (wr.setCell ⟨wc.heap.size, p, none⟩ (.string name)) 9 (Q + 1) (p + 1) (fun i => .string (ins (ρ.Rn x) p name i))) := hF.step (by omega) _ (by rw [ins_at])
            have hp1 : p < Q + 1 := by omega
            clear hF hmk
            go_wp2
            clear g2 g3
            go_loopw [15] (fun z wr => ∃ j : Nat, p ≤ j ∧ j ≤ Q ∧ z = .int .i64 j ∧ Filled wc wr 9 (Q + 1) (j + 1) (fun i => .string (ins (ρ.Rn x) p name i))) (fun z _ => Q - (intOf z).toNat)
            case atStart => exact ⟨p, Nat.le_refl _, hpq, rfl, HF.out⟩
            case round =>
              obtain ⟨j, hj0, hj, rfl, hF⟩ := hrel
              by_cases hjQ : j < Q
              · obtain ⟨b3, o3, hA, hc3⟩ := HXR.out (by omega)
                subst hA
                have g1 : wr.cell? ⟨b3, o3 + j, none⟩ = some (.string (ρ.Rn x j)) := cell_on (hc3 j hjQ) hF.1
                obtain ⟨⟨v0, g2⟩, g3⟩ := hF.there (j + 1) (by omega)
                have HF : Hid (Filled wc (wr.setCell ⟨wc.heap.size, j + 1, none⟩ (.string (ρ.Rn x j))) 9 (Q + 1) (j + 1 + 1) (fun i => .string (ins (ρ.Rn x) p name i))) := hF.step (by omega) _ (by rw [ins_gt _ _ _ _ hj0])
                have hj1 : j + 1 < Q + 1 := by omega
                clear hc3 hF
                go_wp2
                go_roundw
                case rel => exact ⟨j + 1, by omega, by omega, by go_num, HF.out⟩
                case measure => simp [intOf]; omega
              · have hjQ' : Q = j := by omega
                subst hjQ'
                obtain ⟨wd, rfl⟩ : ∃ wd : World, wd = wr := ⟨_, rfl⟩
                have HG : Hid (Row wd (.slice (some ⟨wc.heap.size, 0, none⟩) (Q + 1) (Q + 1)) (Q + 1) (fun i => .string (ins (ρ.Rn x) p name i))) := hF.out _
                have HBd : Hid (Below wc.heap.size wc wd) := hF.1
                have hmk2 := make23 m (by omega)
                clear hF HF
                go_wp2
                go_loopw [17] (fun z wr => ∃ j : Nat, j ≤ m ∧ z = .int .i64 j ∧ Filled wd wr 22 m j (fun i => ρ.val i)) (fun z _ => m - (intOf z).toNat)
                case atStart => exact ⟨0, by omega, rfl, Filled.start _ _ _ _ _⟩
                case round =>
                  obtain ⟨j, hj, rfl, hF⟩ := hrel
                  by_cases hjm : j < m
                  · have g1 : wr.cell? ⟨b2, o2 + j, none⟩ = some (.slice (ρ.ra j) (ρ.q j) (ρ.rc j)) := cell_on (cell_on (HC.out j hjm) HBd.out) hF.1
                    obtain ⟨⟨v0, g2⟩, g3⟩ := hF.there j hjm
                    have HF : Hid (Filled wd (wr.setCell ⟨wd.heap.size, j, none⟩ (.slice (ρ.ra j) (ρ.q j) (ρ.rc j))) 22 m (j + 1) (fun i => ρ.val i)) := hF.step hjm _ rfl
                    clear hF hmk2
                    go_wp2
                    go_roundw
                    case rel => exact ⟨j + 1, by omega, by go_num, HF.out⟩
                    case measure => simp [intOf]; omega
                  · have hjm' : m = j := by omega
                    subst hjm'
                    obtain ⟨⟨v0, g2⟩, g3⟩ := hF.there x hxm
                    have HF : Hid (Filled wd wr 22 m m (fun i => ρ.val i)) := hF
                    clear hF hmk2
                    go_upto_region 32 with fail
                    refine gen_world (fun W => RelRow W (.slice (some ⟨wd.heap.size, 0, none⟩) m m) m (ρ.turn x (some ⟨wc.heap.size, 0, none⟩) (Q + 1) (Q + 1) (ins (ρ.Rn x) p name)) ∧ Below wd.heap.size wd W) (turned HF.out hxm (fun i hi => (HRc.out.each i hi).later HBd.out) HG.out rfl m) ?_
                    rintro W3 ⟨hR3, hB3⟩
                    clear g2 g3 HF
                    have HG3 : Hid (RelRow W3 (.slice (some ⟨wd.heap.size, 0, none⟩) m m) m (ρ.turn x (some ⟨wc.heap.size, 0, none⟩) (Q + 1) (Q + 1) (ins (ρ.Rn x) p name))) := hR3
                    have B3 : Below wc.heap.size wc W3 := below_step HBd.out hB3
                    have HT3 : Hid (Row W3 (.slice a' n c') n (fun j => .string (S j))) := HTc.out.later B3
                    have HR3 : Hid (RelRow W3 (.slice (some ⟨b2, o2, none⟩) m ca2) m ρ) := HRc.out.later B3
                    have HX3 : Hid (Row W3 (.slice A3 Q C3) Q (fun j => .string (ρ.Rn x j))) := HX.out.later B3
                    have HB3 : Hid (Below w.heap.size w W3) := below_step HB.out B3
                    clear hR3 hB3 B3 HTc HRc HX HB HBd HG
                    have hq5 : Hid (∀ i, i < m → ρ.q i ≤ 5000) := fun i hi => Nat.le_trans (HQ4.out i hi) (by omega)
                    obtain ⟨ρ', hρ'⟩ : ∃ ρ', ρ' = ρ.turn x (some ⟨wc.heap.size, 0, none⟩) (Q + 1) (Q + 1) (ins (ρ.Rn x) p name) := ⟨_, rfl⟩
                    rw [← hρ'] at HG3
                    have hq6 : Hid (∀ i, i < m → ρ'.q i ≤ 5000) := by rw [hρ']; exact Rel.turn_q _ _ _ _ _ _ _ _ hq5.out (by omega)
                    have HRS' : Hid (∀ i j, (ρ'.Rn i j).size ≤ maxLen) := by rw [hρ']; exact Rel.turn_R _ _ _ _ _ _ HRS.out (ins_size _ _ _ (HRS.out x) hname)
                    obtain ⟨N1, hN1⟩ : ∃ N1, N1 = tp S (dc m ρ) n (fun _ => true) := ⟨_, rfl⟩
                    obtain ⟨N2, hN2⟩ : ∃ N2, N2 = tp S (dc m ρ') n (fun _ => true) := ⟨_, rfl⟩
                    have hsum : N2 = N1 + if lastB S n x = true then (if among (ρ.Rn x) Q name = true then 0 else 1) else 0 := by
                      have h := turn_count S n m x p ρ (some ⟨wc.heap.size, 0, none⟩) (Q + 1) name hxn hxm (by rw [← HEQ.out]; exact hpq)
                      rw [← HEQ.out, ← hρ', ← hN1, ← hN2] at h
                      exact h
                    have hle : N1 ≤ 25000000 := by
                      rw [hN1]
                      refine Nat.le_trans (tp_le S (dc m ρ) 5000 n _ (fun i _ => dc_le m ρ hq5.out i)) ?_
                      calc n * 5000 ≤ 5000 * 5000 := Nat.mul_le_mul_right _ (by omega)
                        _ ≤ 25000000 := by omega
                    have hle2 : N2 ≤ 25000001 := by rw [hsum]; split <;> (try split) <;> omega
                    have HMS : Hid (ms S (dc m ρ) n (fun _ => true) n = N1) := by unfold Hid; rw [hN1, tp_eq_ms]
                    have HN1 : Hid (N1 = tp S (dc m ρ) n (fun _ => true)) := hN1
                    have HN2 : Hid (N2 = tp S (dc m ρ') n (fun _ => true)) := hN2
                    have HSUM : Hid (N2 = N1 + if lastB S n x = true then (if among (ρ.Rn x) Q name = true then 0 else 1) else 0) := hsum
                    clear hN1 hN2 hsum hρ'
                    go_wp2_with fail
                    refine (newSchema _ _ n m S ρ W3 (by omega) (by omega) hq5.out HS.out HRS.out HT3.out HR3.out).mono ?_
                    rintro e x1 ⟨s1, rfl, hs1, hx1⟩
                    rw [← HN1.out] at hs1
                    go_wp2_with fail
                    refine (numRelations s1 N1 x1 (by omega) hs1).mono ?_
                    rintro e x2 ⟨rfl, hx2⟩
                    have B2 : Below W3.heap.size W3 x2 := below_step hx1 hx2
                    have HT4 : Hid (Row x2 (.slice a' n c') n (fun j => .string (S j))) := HT3.out.later B2
                    have HR4 : Hid (RelRow x2 (.slice (some ⟨b2, o2, none⟩) m ca2) m ρ) := HR3.out.later B2
                    have HG4 : Hid (RelRow x2 (.slice (some ⟨wd.heap.size, 0, none⟩) m m) m ρ') := HG3.out.later B2
                    have HX4 : Hid (Row x2 (.slice A3 Q C3) Q (fun j => .string (ρ.Rn x j))) := HX3.out.later B2
                    have HB4 : Hid (Below w.heap.size w x2) := below_step HB3.out B2
                    clear hs1 hx1 hx2 B2 HT3 HR3 HG3 HX3 HB3
                    go_wp2_with fail
                    refine (newSchema _ _ n m S ρ' x2 (by omega) (by omega) hq6.out HS.out HRS'.out HT4.out HG4.out).mono ?_
                    rintro e x3 ⟨s3, rfl, hs3, hx3⟩
                    rw [← HN2.out] at hs3
                    go_wp2_with fail
                    refine (numRelations s3 N2 x3 (by omega) hs3).mono ?_
                    rintro e x4 ⟨rfl, hx4⟩
                    have B4 : Below x2.heap.size x2 x4 := below_step hx3 hx4
                    have HT5 : Hid (Row x4 (.slice a' n c') n (fun j => .string (S j))) := HT4.out.later B4
                    have HR5 : Hid (RelRow x4 (.slice (some ⟨b2, o2, none⟩) m ca2) m ρ) := HR4.out.later B4
                    have HX5 : Hid (Row x4 (.slice A3 Q C3) Q (fun j => .string (ρ.Rn x j))) := HX4.out.later B4
                    have HB5 : Hid (Below w.heap.size w x4) := below_step HB4.out B4
                    clear hs3 hx3 hx4 B4 HT4 HR4 HG4 HX4 HB4
                    go_wp2_with fail
                    refine (lastOccurrence _ n x S x4 (by omega) hxn HT5.out).mono ?_
                    rintro e y1 ⟨rfl, m1, hw⟩
                    subst y1
                    rcases Bool.eq_false_or_eq_true (lastB S n x) with hL | hL
                    · rw [hL]
                      go_wp2_with fail
                      refine (contains _ Q (ρ.Rn x) name _ (by omega) (HX5.out.drewN m1)).mono ?_
                      rintro e y2 ⟨rfl, m2, hw⟩
                      subst y2
                      rcases Bool.eq_false_or_eq_true (among (ρ.Rn x) Q name) with hA | hA
                      · have hs : N2 = N1 := by have := HSUM.out; rw [hL, hA] at this; simpa using this
                        subst hs
                        rw [hA]
                        clear hL hA
                        go_wp2_with fail
                        refine (modelCount _ _ n m S ρ _ (by omega) (by omega) hq5.out (Row.later HT5.out (below_drewN (Below.refl _ _) _)) (RelRow.later HR5.out (below_drewN (Below.refl _ _) _))).mono ?_
                        rintro e z ⟨rfl, mm, hw⟩
                        subst z
                        rw [HMS.out]
                        go_wp2
                        go_ret
                        exact TruePost.mk' (below_drewN HB5.out _)
                      · have hs : N2 = N1 + 1 := by have := HSUM.out; rw [hL, hA] at this; simpa using this
                        subst hs
                        rw [hA]
                        clear hL hA
                        go_wp2_with fail
                        refine (modelCount _ _ n m S ρ _ (by omega) (by omega) hq5.out (Row.later HT5.out (below_drewN (Below.refl _ _) _)) (RelRow.later HR5.out (below_drewN (Below.refl _ _) _))).mono ?_
                        rintro e z ⟨rfl, mm, hw⟩
                        subst z
                        rw [HMS.out]
                        go_wp2
                        go_ret
                        exact TruePost.mk' (below_drewN HB5.out _)
                    · have hs : N2 = N1 := by have := HSUM.out; rw [hL] at this; simpa using this
                      subst hs
                      rw [hL]
                      clear hL
                      go_wp2_with fail
                      refine (modelCount _ _ n m S ρ _ (by omega) (by omega) hq5.out (Row.later HT5.out (below_drewN (Below.refl _ _) _)) (RelRow.later HR5.out (below_drewN (Below.refl _ _) _))).mono ?_
                      rintro e z ⟨rfl, mm, hw⟩
                      subst z
                      rw [HMS.out]
                      go_wp2
                      go_ret
                      exact TruePost.mk' (below_drewN HB5.out _)
end Go.Proofs.Qxb6626881a
