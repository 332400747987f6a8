/-
  The law: a schema cut in two counts the same relations.
-/
import Derived.Test.Qxb6626881aCuts
import Derived.Deep.RegionHeld3
import Derived.Deep.DeepCutAuto
import Derived.BigQuiet
import Derived.WalkSpells
namespace Go.Proofs.Qxb6626881a
open Go.ChangeShapes Go.WideShapes Go.ChangeAt Go.RowKit Go.Maps

def TruePost (w : World) (e : Ending) (w' : World) : Prop := e = .returned (.bool true) ∧ Below w.heap.size w w'
theorem TruePost.mk' {w w' : World} (h : Below w.heap.size w w') : TruePost w (.returned (.bool true)) w' := ⟨rfl, h⟩

theorem below_drewN {B : Nat} {w W : World} (h : Below B w W) (k : Nat) : Below B w (W.drewN k) := h.trans ⟨rfl, rfl, rfl, Nat.le_refl _, fun _ _ => rfl⟩

set_option maxRecDepth 100000 in
set_option maxHeartbeats 4000000 in
theorem lawSplit (vt vr : Value) (n m : Nat) (S : Nat → ByteArray) (ρ : Rel) (c : Int) (w : World) (hn : n ≤ maxLen) (hm : m ≤ maxLen) (hq : ∀ i, ρ.q i ≤ maxLen) (hS : ∀ i, (S i).size ≤ maxLen) (hR : ∀ i j, (ρ.Rn i j).size ≤ maxLen)
    (ht : Row w vt n (fun j => .string (S j))) (hr : RelRow w vr m ρ) (hcr : ∃ a2 ca2, vr = .slice a2 m ca2 ∧ m ≤ ca2) :
    Calls Try.prog 3 #[vt, vr, .int .i64 c] w (TruePost w) := by
  have HT : Hid (Row w vt n (fun j => .string (S j))) := ht
  have HR : Hid (RelRow w vr m ρ) := hr
  have HQ : Hid (∀ i, ρ.q i ≤ maxLen) := hq
  have HS : Hid (∀ i, (S i).size ≤ maxLen) := hS
  have HRS : Hid (∀ i j, (ρ.Rn i j).size ≤ maxLen) := hR
  clear hq hS hR hr
  obtain ⟨a, ca, rfl, ht⟩ := ht
  obtain ⟨a2, ca2, rfl, hca2⟩ := hcr
  go_enter Try.func3, Try.ntmps3
  go_wp2_with fail
  refine (bytesSplit _ _ n m S ρ _ c hn hm HQ.out HS.out HRS.out HT.out HR.out).mono ?_
  rintro e w1 ⟨r, rfl, hw⟩
  subst w1
  cases r with
  | false =>
    go_wp2
    go_ret
    exact TruePost.mk' (Below.refl _ _)
  | true =>
    by_cases h1 : 4096 < n
    · go_wp2
      go_ret
      exact TruePost.mk' (Below.refl _ _)
    by_cases h2 : 4096 < m
    · go_wp2
      go_ret
      exact TruePost.mk' (Below.refl _ _)
    go_wp2_with fail
    refine (sizeOK _ _ n m S ρ _ 0 hn hm HQ.out HS.out HRS.out HT.out HR.out).mono ?_
    rintro e w2 ⟨r, rfl, hqq, hw⟩
    subst w2
    cases r with
    | false =>
      go_wp2
      go_ret
      exact TruePost.mk' (Below.refl _ _)
    | true =>
      have HQ4 : Hid (∀ i, i < m → ρ.q i ≤ 4096) := hqq rfl
      clear hqq
      by_cases h3 : c < 0
      · go_wp2
        go_ret
        exact TruePost.mk' (Below.refl _ _)
      by_cases h4 : (n : Int) < c
      · go_wp2
        go_ret
        exact TruePost.mk' (Below.refl _ _)
      obtain ⟨k, rfl⟩ := Int.eq_ofNat_of_zero_le (by omega : 0 ≤ c)
      have hkn : k ≤ n := by omega
      have hnn := fun (W : World) (a : Option Addr) (n c n' c' : Nat) => run_neq_slice_nil_any (P := Try.prog) W 22 9 a n c n' c' Try.underlying22
      go_upto_if 40 with fail
      go_cut [0] (fun v wx => ∃ a c, v = .slice a n c ∧ n ≤ c ∧ Row wx v n (fun j => .string (S j)) ∧ Below w.heap.size w wx)
      case first =>
        cases a with
        | none =>
          have hn0 : n = 0 := by
            rcases Nat.eq_zero_or_pos n with h | h
            · exact h
            · obtain ⟨b, off, h1, _⟩ := ht h
              cases h1
          subst hn0
          go_wp2
          go_meet
          exact ⟨none, ca, rfl, Nat.zero_le _, HT.out, Below.refl _ _⟩
        | some a =>
          have hmk := make22 n (by omega)
          clear ht
          go_upto_region 11 with fail
          refine gen_world (fun W => Made w W 9 n) (Made.start _ _ _ _) ?_
          intro W hM
          obtain ⟨W', hcp, hrow, hb⟩ := copied 3 HT.out hM
          clear hM
          go_wp2
          go_meet
          exact ⟨_, _, rfl, Nat.le_refl _, hrow, hb⟩
      case rest =>
        obtain ⟨a', c', rfl, hcc, hrow, hB⟩ := hcut
        have HTc : Hid (Row wc (.slice a' n c') n (fun j => .string (S j))) := hrow
        obtain ⟨_, _, hv, hrow⟩ := hrow
        cases hv
        have HRW : Hid (0 < n → ∃ b off, a' = some ⟨b, off, none⟩ ∧ ∀ i, i < n → wc.cell? ⟨b, off + i, none⟩ = some (.string (S i))) := hrow
        have hRc : RelRow wc (.slice a2 m ca2) m ρ := HR.out.later hB
        have HRc : Hid (RelRow wc (.slice a2 m ca2) m ρ) := hRc
        clear hrow hRc ht hnn
        have HB : Hid (Below w.heap.size w wc) := hB
        clear hB
        go_wp2
        go_loopw [8] (fun z wr => ∃ i : Nat, i ≤ k ∧ z = .int .i64 i ∧ (∀ x y, x < i → k ≤ y → y < n → S x ≠ S y) ∧ ∃ mm, wr = wc.drewN mm) (fun z _ => k - (intOf z).toNat)
        case atStart => exact ⟨0, by omega, rfl, fun x y h => by omega, 0, rfl⟩
        case round =>
          obtain ⟨i, hi, rfl, hD, m1, rfl⟩ := hrel
          have HD : Hid (∀ x y, x < i → k ≤ y → y < n → S x ≠ S y) := hD
          clear hD
          by_cases hik : i < k
          · have hik' : (i : Int) < (k : Int) := by omega
            go_wp2
            go_loopw [9] (fun z wr => ∃ j : Nat, k ≤ j ∧ j ≤ n ∧ z = .int .i64 j ∧ (∀ y, k ≤ y → y < j → S i ≠ S y) ∧ ∃ mm, wr = wc.drewN mm) (fun z _ => n - (intOf z).toNat)
            case atStart => exact ⟨k, by omega, by omega, rfl, fun y h => by omega, m1, rfl⟩
            case round =>
              obtain ⟨j, hj0, hj, rfl, hE, m2, rfl⟩ := hrel
              have HE : Hid (∀ y, k ≤ y → y < j → S i ≠ S y) := hE
              clear hE
              by_cases hjn : j < n
              · obtain ⟨b1, o1, hA, hc1⟩ := HRW.out (by omega)
                subst hA
                have g1 := hc1 i (by omega)
                have g2 := hc1 j hjn
                clear hc1
                by_cases he : S i = S j
                · have he' := bytes_yes he
                  go_wp2
                  go_quiet (fail)
                  go_wp2
                  go_ret
                  exact TruePost.mk' (below_drewN (below_drewN HB.out _) _)
                · have he' := bytes_ne he
                  go_wp2
                  go_quiet (fail)
                  go_wp2
                  exact ⟨⟨j + 1, by omega, by omega, by go_num, fun y h h' => by rcases Nat.lt_succ_iff_lt_or_eq.mp h' with q | q; exact HE.out y h q; subst q; exact he, by first | exact ⟨_, rfl⟩ | exact drew2 _ _ _⟩, by simp [intOf]; omega⟩
              · have hjn' : j = n := by omega
                subst hjn'
                go_wp2
                exact ⟨⟨i + 1, by omega, by go_num, fun x y h h1 h2 => by rcases Nat.lt_succ_iff_lt_or_eq.mp h with q | q; exact HD.out x y q h1 h2; subst q; exact HE.out y h1 h2, by first | exact ⟨_, rfl⟩ | exact drew2 _ _ _⟩, by simp [intOf]; omega⟩
          · have hik' : i = k := by omega
            subst hik'
            obtain ⟨t, ht0⟩ : ∃ t : Nat, t = if m < i then m else i := ⟨_, rfl⟩
            have htm : t ≤ m := by rw [ht0]; split <;> omega
            have hW0 : ∃ W0, W0 = wc.drewN m1 := ⟨_, rfl⟩
            obtain ⟨W0, hW0⟩ := hW0
            have HT0 : Hid (Row W0 (.slice a' n c') n (fun j => .string (S j))) := by rw [hW0]; exact HTc.out
            have HR0 : Hid (RelRow W0 (.slice a2 m ca2) m ρ) := by rw [hW0]; exact HRc.out.drewN m1
            have HB0 : Hid (Below w.heap.size w W0) := by rw [hW0]; exact below_drewN HB.out _
            rw [← hW0]
            clear hW0 HTc HRc HB HRW
            have hq5 : Hid (∀ x, x < m → ρ.q x ≤ 5000) := fun x hx => Nat.le_trans (HQ4.out x hx) (by omega)
            obtain ⟨N1, hN1⟩ : ∃ N1, N1 = tp S (dc m ρ) n (fun _ => true) := ⟨_, rfl⟩
            obtain ⟨N2, hN2⟩ : ∃ N2, N2 = tp S (dc t ρ) i (fun _ => true) := ⟨_, rfl⟩
            obtain ⟨N3, hN3⟩ : ∃ N3, N3 = tp (fun x => S (i + x)) (dc (m - t) (ρ.drop t)) (n - i) (fun _ => true) := ⟨_, rfl⟩
            have hsum : N1 = N2 + N3 := by
              rw [hN1, hN2, hN3, tp_cut S _ i n hkn HD.out]
              congr 1
              · refine tp_congr _ _ _ _ i _ _ (fun _ => rfl) (fun _ _ => rfl) (fun x hx => ?_)
                unfold dc
                rw [ht0]
                by_cases h : m < i
                · rw [if_pos h]
                · rw [if_neg h, if_pos (by omega : x < m), if_pos hx]
              · refine tp_congr _ _ _ _ _ _ _ (fun _ => rfl) (fun _ _ => rfl) (fun x hx => ?_)
                unfold dc Rel.drop
                dsimp only
                rw [ht0]
                by_cases h : m < i
                · rw [if_pos h, if_neg (by omega), if_neg (by omega)]
                · rw [if_neg h]
                  by_cases h' : i + x < m
                  · rw [if_pos h', if_pos (by omega)]
                  · rw [if_neg h', if_neg (by omega)]
            have hle : N1 ≤ 25000000 := by
              rw [hN1]
              refine Nat.le_trans (tp_le S (dc m ρ) 5000 n _ (fun x _ => dc_le m ρ hq5.out x)) ?_
              calc n * 5000 ≤ 5000 * 5000 := Nat.mul_le_mul_right _ (by omega)
                _ ≤ 25000000 := by omega
            have HMS : Hid (ms S (dc m ρ) n (fun _ => true) n = N1) := by unfold Hid; rw [hN1, tp_eq_ms]
            have HN1 : Hid (N1 = tp S (dc m ρ) n (fun _ => true)) := hN1
            have HN2 : Hid (N2 = tp S (dc t ρ) i (fun _ => true)) := hN2
            have HN3 : Hid (N3 = tp (fun x => S (i + x)) (dc (m - t) (ρ.drop t)) (n - i) (fun _ => true)) := hN3
            clear hN1 hN2 hN3
            have e1 := cut_lo elem22 run_size9 a' n c' i hkn hcc
            have e2 := cut_lo elem23 run_size22 a2 m ca2 t htm hca2
            obtain ⟨v3, e3, hv3⟩ : ∃ v3, (∀ W, (Instr.slice 22 (.slice a' n c') (some (.int .i64 (i : Int))) none none).run Try.prog W = .ok v3 W) ∧ v3 = sliced a' i n c' 1 := ⟨_, cut_hi elem22 run_size9 a' n c' i hkn, rfl⟩
            obtain ⟨v4, e4, hv4⟩ : ∃ v4, (∀ W, (Instr.slice 23 (.slice a2 m ca2) (some (.int .i64 (t : Int))) none none).run Try.prog W = .ok v4 W) ∧ v4 = sliced a2 t m ca2 1 := ⟨_, cut_hi elem23 run_size22 a2 m ca2 t htm, rfl⟩
            have HV3 : Hid (v3 = sliced a' i n c' 1) := hv3
            have HV4 : Hid (v4 = sliced a2 t m ca2 1) := hv4
            clear hv3 hv4
            by_cases hmi : m < i
            · rw [if_pos hmi] at ht0
              subst ht0
              have hmi' : (t : Int) < (i : Int) := by omega
              go_wp2_with fail
              refine (newSchema _ _ n t S ρ W0 (by omega) (by omega) hq5.out HS.out HRS.out HT0.out HR0.out).mono ?_
              rintro e x1 ⟨s1, rfl, hs1, hx1⟩
              rw [← HN1.out] at hs1
              go_wp2_with fail
              refine (numRelations s1 N1 x1 (by omega) hs1).mono ?_
              rintro e x2 ⟨rfl, hx2⟩
              have B2 : Below W0.heap.size W0 x2 := below_step hx1 hx2
              have HT2 : Hid (Row x2 (.slice a' n c') n (fun j => .string (S j))) := HT0.out.later B2
              have HR2 : Hid (RelRow x2 (.slice a2 t ca2) t ρ) := HR0.out.later B2
              have HB2 : Hid (Below w.heap.size w x2) := below_step HB0.out B2
              clear hs1 hx1 hx2 B2
              go_wp2_with fail
              go_region_held3 (fun _ => True) (trivial)
                (first
                  | (go_at_call 7; refine (newSchema _ _ i t S ρ _ (by omega) (by omega) (fun x hx => hq5.out x (by omega)) HS.out HRS.out ((HT2.out.first hkn).later (Below.refl _ _).drew) ((HR2.out.first htm).later (Below.refl _ _).drew)).mono ?_; rintro e x3 ⟨s3, rfl, hs3, hx3⟩)
                  | (go_at_call 8; refine (numRelations _ N2 _ (by omega) (by rw [HN2.out]; exact hs3)).mono ?_; rintro e x4 ⟨rfl, hx4⟩))
              have B4 : Below x2.heap.size x2 x4 := below_step (Below.refl _ _).drew (below_step hx3 hx4)
              have HT4 : Hid (Row x4 (.slice a' n c') n (fun j => .string (S j))) := HT2.out.later B4
              have HR4 : Hid (RelRow x4 (.slice a2 t ca2) t ρ) := HR2.out.later B4
              have HB4 : Hid (Below w.heap.size w x4) := below_step HB2.out B4
              clear hs3 hx3 hx4 B4
              go_wp2_with fail
              go_region_held3 (fun _ => True) (trivial)
                (first
                  | (go_at_call 7; refine (newSchema v3 v4 (n - i) (t - t) (fun x => S (i + x)) (ρ.drop t) _ (by omega) (by omega) (fun x hx => hq5.out (t + x) (by omega)) (fun x => HS.out _) (fun x y => HRS.out _ _) ((show Row _ _ _ _ by rw [HV3.out]; exact HT4.out.drop hcc).later (Below.refl _ _).drew) ((show RelRow _ _ _ _ by rw [HV4.out]; exact HR4.out.drop hca2 _).later (Below.refl _ _).drew)).mono ?_; rintro e x5 ⟨s5, rfl, hs5, hx5⟩)
                  | (go_at_call 8; refine (numRelations _ N3 _ (by omega) (by rw [HN3.out]; exact hs5)).mono ?_; rintro e x6 ⟨rfl, hx6⟩))
              have B6 : Below x4.heap.size x4 x6 := below_step (Below.refl _ _).drew (below_step hx5 hx6)
              have HT6 : Hid (Row x6 (.slice a' n c') n (fun j => .string (S j))) := HT4.out.later B6
              have HR6 : Hid (RelRow x6 (.slice a2 t ca2) t ρ) := HR4.out.later B6
              have HB6 : Hid (Below w.heap.size w x6) := below_step HB4.out B6
              clear hs5 hx5 hx6 B6
              go_wp2_with fail
              refine (modelCount _ _ n t S ρ x6 (by omega) (by omega) hq5.out HT6.out HR6.out).mono ?_
              rintro e x7 ⟨rfl, mm, hw⟩
              subst x7
              rw [HMS.out]
              go_wp2
              go_ret
              exact TruePost.mk' (below_drewN HB6.out _)
            · rw [if_neg hmi] at ht0
              subst ht0
              have hmi' : ¬ (m : Int) < (t : Int) := by omega
              go_wp2_with fail
              refine (newSchema _ _ n m S ρ W0 (by omega) (by omega) hq5.out HS.out HRS.out HT0.out HR0.out).mono ?_
              rintro e x1 ⟨s1, rfl, hs1, hx1⟩
              rw [← HN1.out] at hs1
              go_wp2_with fail
              refine (numRelations s1 N1 x1 (by omega) hs1).mono ?_
              rintro e x2 ⟨rfl, hx2⟩
              have B2 : Below W0.heap.size W0 x2 := below_step hx1 hx2
              have HT2 : Hid (Row x2 (.slice a' n c') n (fun j => .string (S j))) := HT0.out.later B2
              have HR2 : Hid (RelRow x2 (.slice a2 m ca2) m ρ) := HR0.out.later B2
              have HB2 : Hid (Below w.heap.size w x2) := below_step HB0.out B2
              clear hs1 hx1 hx2 B2
              go_wp2_with fail
              go_region_held3 (fun _ => True) (trivial)
                (first
                  | (go_at_call 7; refine (newSchema _ _ t t S ρ _ (by omega) (by omega) (fun x hx => hq5.out x (by omega)) HS.out HRS.out ((HT2.out.first hkn).later (Below.refl _ _).drew) ((HR2.out.first htm).later (Below.refl _ _).drew)).mono ?_; rintro e x3 ⟨s3, rfl, hs3, hx3⟩)
                  | (go_at_call 8; refine (numRelations _ N2 _ (by omega) (by rw [HN2.out]; exact hs3)).mono ?_; rintro e x4 ⟨rfl, hx4⟩))
              have B4 : Below x2.heap.size x2 x4 := below_step (Below.refl _ _).drew (below_step hx3 hx4)
              have HT4 : Hid (Row x4 (.slice a' n c') n (fun j => .string (S j))) := HT2.out.later B4
              have HR4 : Hid (RelRow x4 (.slice a2 m ca2) m ρ) := HR2.out.later B4
              have HB4 : Hid (Below w.heap.size w x4) := below_step HB2.out B4
              clear hs3 hx3 hx4 B4
              go_wp2_with fail
              go_region_held3 (fun _ => True) (trivial)
                (first
                  | (go_at_call 7; refine (newSchema v3 v4 (n - t) (m - t) (fun x => S (t + x)) (ρ.drop t) _ (by omega) (by omega) (fun x hx => hq5.out (t + x) (by omega)) (fun x => HS.out _) (fun x y => HRS.out _ _) ((show Row _ _ _ _ by rw [HV3.out]; exact HT4.out.drop hcc).later (Below.refl _ _).drew) ((show RelRow _ _ _ _ by rw [HV4.out]; exact HR4.out.drop hca2 _).later (Below.refl _ _).drew)).mono ?_; rintro e x5 ⟨s5, rfl, hs5, hx5⟩)
                  | (go_at_call 8; refine (numRelations _ N3 _ (by omega) (by rw [HN3.out]; exact hs5)).mono ?_; rintro e x6 ⟨rfl, hx6⟩))
              have B6 : Below x4.heap.size x4 x6 := below_step (Below.refl _ _).drew (below_step hx5 hx6)
              have HT6 : Hid (Row x6 (.slice a' n c') n (fun j => .string (S j))) := HT4.out.later B6
              have HR6 : Hid (RelRow x6 (.slice a2 m ca2) m ρ) := HR4.out.later B6
              have HB6 : Hid (Below w.heap.size w x6) := below_step HB4.out B6
              clear hs5 hx5 hx6 B6
              go_wp2_with fail
              refine (modelCount _ _ n m S ρ x6 (by omega) (by omega) hq5.out HT6.out HR6.out).mono ?_
              rintro e x7 ⟨rfl, mm, hw⟩
              subst x7
              rw [HMS.out]
              go_wp2
              go_ret
              exact TruePost.mk' (below_drewN HB6.out _)
end Go.Proofs.Qxb6626881a
