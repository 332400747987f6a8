/-
  ZZnewSchema builds a schema: one type a name, one relation a name of its row.
-/
import Derived.Test.Qxb6626881aSchemaA
import Derived.Deep.RegionHeld3
namespace Go.Proofs.Qxb6626881a
open Go.ChangeShapes Go.WideShapes Go.ChangeAt Go.RowKit Go.Maps Go.WideMaps

theorem below_newd (w : World) (o : Obj) : Below w.heap.size w (w.alloc o).drew := by have h := below_new w o; exact ⟨h.os, h.tape, h.output, h.size, h.block⟩

set_option maxRecDepth 100000 in
set_option maxHeartbeats 2000000 in
theorem newSchema (vt vr : Value) (n m : Nat) (S : Nat → ByteArray) (ρ : Rel) (w : World) (hn : n ≤ 5000) (hm : m ≤ 5000) (hq : ∀ i, i < m → ρ.q i ≤ 5000) (hS : ∀ i, (S i).size ≤ maxLen) (hR : ∀ i j, (ρ.Rn i j).size ≤ maxLen)
    (ht : Row w vt n (fun j => .string (S j))) (hr : RelRow w vr m ρ) :
    Calls Try.prog 7 #[vt, vr] w (NewPost w (tp S (dc m ρ) n (fun _ => true))) := by
  have HR : Hid (RelRow w vr m ρ) := hr
  have HQ : Hid (∀ i, i < m → ρ.q i ≤ 5000) := hq
  have HS : Hid (∀ i, (S i).size ≤ maxLen) := hS
  have HRS : Hid (∀ i j, (ρ.Rn i j).size ≤ maxLen) := hR
  obtain ⟨a, ca, rfl, ht⟩ := ht
  obtain ⟨⟨a2, ca2, rfl, hr1⟩, hr2⟩ := hr
  have hmm := @run_makeMap Try.prog
  clear hq hS hR hr2
  go_enter Try.func7, Try.ntmps7
  go_wp2
  go_loopw [6] (fun c wr => ∃ k : Nat, k ≤ n ∧ c = .int .i64 k ∧ ∃ es f, Inv w wr S m ρ k es f) (fun c _ => n - (intOf c).toNat)
  case atStart => exact ⟨0, by omega, rfl, [], fun _ => 0, Inv.start w S m ρ _⟩
  case round =>
    obtain ⟨k, hk, rfl, es, f, hI⟩ := hrel
    obtain ⟨wo, rfl⟩ : ∃ wo : World, wo = wr := ⟨_, rfl⟩
    have HI : Hid (Inv w wo S m ρ k es f) := hI
    obtain ⟨i1, i2, i3, i4, i5⟩ := hI
    by_cases hlt : k < n
    · obtain ⟨b1, o1, rfl, hc⟩ := ht (by omega)
      have hc1 := hc k hlt
      have g1 : wo.cell? ⟨b1, o1 + k, none⟩ = some (.string (S k)) := cell_on hc1 i5
      have hlt' : (k : Int) < (n : Int) := by omega
      clear hc ht i3 i4
      by_cases hkm : k < m
      · have hkm' : (k : Int) < (m : Int) := by omega
        obtain ⟨b2, o2, rfl, hcr⟩ := hr1 (by omega)
        have hcr1 := hcr k hkm
        clear hcr hr1
        have hrow := HR.out.each k hkm
        have hqk := HQ.out k hkm
        go_wp2
        refine gen_world (Laid wo) (Laid.start _ _ _) ?_
        intro W2 hL
        have HL : Hid (Laid wo W2) := hL
        obtain ⟨l1, l2, l3, l4⟩ := hL
        have hA2 : Below w.heap.size w W2 := below_step i5 l3
        go_loopw [8] (fun c wi => ∃ (j : Nat) (D : DataW Nat), j ≤ ρ.q k ∧ c = .int .i64 j ∧ RelInv W2 wi wo.heap.size (ρ.Rn k) j D) (fun c _ => ρ.q k - (intOf c).toNat)
        case atStart => exact ⟨0, .map [], by omega, rfl, l2, rfl, fun x => rfl, ⟨rfl, rfl, rfl, Nat.le_refl _, fun _ _ _ => rfl⟩⟩
        case round =>
          obtain ⟨j, D, hj, rfl, r1, r2, r3, r4⟩ := hrel
          have HRI : Hid (RelInv W2 wr wo.heap.size (ρ.Rn k) j D) := ⟨r1, r2, r3, r4⟩
          have hAi : Below w.heap.size w wr := hA2.grown r4 hA2.size (fun x e => by cases e; exact i5.size)
          have hcr2 := cell_on hcr1 hAi
          by_cases hjq : j < ρ.q k
          · obtain ⟨a3, c3, hv3, hrow3⟩ := hrow
            obtain ⟨b3, o3, ha3, hc3⟩ := hrow3 (by omega)
            have hra : ρ.ra k = some ⟨b3, o3, none⟩ := by cases hv3; exact ha3
            have hcj := cell_on (hc3 j hjq) hAi
            have hb3 : b3 < w.heap.size := by have := block_lt_of_cell (hc3 j hjq); simpa using this
            have hcr3 : wr.cell? ⟨b2, o2 + k, none⟩ = some (.slice (some ⟨b3, o3, none⟩) (ρ.q k) (ρ.rc k)) := by rw [hcr2]; show some (Value.slice (ρ.ra k) (ρ.q k) (ρ.rc k)) = _; rw [hra]
            have hcb : wr.cell? ⟨wo.heap.size + 1, 2, none⟩ = some (.map (some wo.heap.size)) := r4.cell l1 (by simp)
            clear hcr2 hv3 hrow3 hc3 hra ha3
            have hjq' : (j : Int) < (ρ.q k : Int) := by omega
            have hkey : keyOf Try.prog 9 (.string (ρ.Rn k j)) = some (.string (ρ.Rn k j).data.toList) := keyOf_string_mk Try.underlying9 (HRS.out k j)
            obtain ⟨U, hU⟩ : ∃ U : Obj → Value → World, ∀ o v, (Instr.mapUpdate 37 (.map (some wo.heap.size)) (.string (ρ.Rn k j)) v).run Try.prog (wr.drew.alloc o) = .ok () (U o v) ∧ (U o v).ownsMap Try.prog 9 rAny wo.heap.size (j + 1) (D.put (.string (ρ.Rn k j).data.toList) .nil) ∧ (wr.drew.alloc o).grownBy (U o v) (some wo.heap.size) :=
              ⟨fun o v => Classical.choose (World.ownsMap.update (r1.drew.alloc o) keyLaw Try.underlying37 (by unfold maxLen; omega) hkey (val := v) (d := .nil) (ps := []) rfl), fun o v => Classical.choose_spec (World.ownsMap.update (r1.drew.alloc o) keyLaw Try.underlying37 (by unfold maxLen; omega) hkey (val := v) (d := .nil) (ps := []) rfl)⟩
            have HU : Hid (∀ o v, (U o v).ownsMap Try.prog 9 rAny wo.heap.size (j + 1) (D.put (.string (ρ.Rn k j).data.toList) .nil) ∧ (wr.drew.alloc o).grownBy (U o v) (some wo.heap.size)) := fun o v => (hU o v).2
            have u1 := fun o v => (hU o v).1
            have u2 : ∀ o v, (Instr.mapUpdate 37 (.map (some wo.heap.size)) (.string (ρ.Rn k j)) v).run Try.prog (wr.alloc o).drew = .ok () (U o v) := u1
            clear hU
            have n1 : wo.heap.size + 1 < wr.heap.size := Nat.lt_of_lt_of_le l4 r4.size
            have HCB : Hid (wr.cell? ⟨wo.heap.size + 1, 2, none⟩ = some (.map (some wo.heap.size))) := hcb
            have HC3 : Hid (wr.cell? ⟨b2, o2 + k, none⟩ = some (.slice (some ⟨b3, o3, none⟩) (ρ.q k) (ρ.rc k))) := hcr3
            have HCJ : Hid (wr.cell? ⟨b3, o3 + j, none⟩ = some (.string (ρ.Rn k j))) := hcj
            have p2 : b2 < wo.heap.size := Nat.lt_of_lt_of_le (by have := block_lt_of_cell hcr1; simpa using this) i5.size
            have p3 : b3 < wo.heap.size := Nat.lt_of_lt_of_le hb3 i5.size
            go_wp2
            go_region_held3 (fun X => X.cell? ⟨wo.heap.size + 1, 2, none⟩ = some (.map (some wo.heap.size)) ∧ X.cell? ⟨b2, o2 + k, none⟩ = some (.slice (some ⟨b3, o3, none⟩) (ρ.q k) (ρ.rc k)) ∧ X.cell? ⟨b3, o3 + j, none⟩ = some (.string (ρ.Rn k j)))
              (first | exact ⟨HCB.out, HC3.out, HCJ.out⟩ | exact ⟨cell_on HCB.out (below_new _ _), cell_on HC3.out (below_new _ _), cell_on HCJ.out (below_new _ _)⟩ | exact ⟨cell_on HCB.out (below_newd _ _), cell_on HC3.out (below_newd _ _), cell_on HCJ.out (below_newd _ _)⟩ | exact ⟨(HU.out _ _).2.cell (cell_on (w := wr.drew) HCB.out (below_new _ _)) (fun e => by simp at e), (HU.out _ _).2.cell (cell_on (w := wr.drew) HC3.out (below_new _ _)) (fun e => by simp at e; omega), (HU.out _ _).2.cell (cell_on (w := wr.drew) HCJ.out (below_new _ _)) (fun e => by simp at e; omega)⟩)
              (fail)
            go_wp2
            exact ⟨⟨j + 1, _, by omega, by go_num, HRI.out.step (HU.out _ _).1 (HU.out _ _).2⟩, by simp [intOf]; omega⟩
          · have hjk : j = ρ.q k := by omega
            have hd : Maps.size D = dc m ρ k := by rw [r2, hjk]; unfold dc; rw [if_pos hkm]
            clear r2 r3
            subst hjk
            go_wp2
            have c1 : wr.cell? ⟨w.heap.size + 1 + 1, 0, none⟩ = some (.map (some w.heap.size)) := (show W2.grownBy wr (some wo.heap.size) from r4).cell (cell_on i1 l3) (fun e => by have := block_lt_of_cell i1; simp at e this; omega)
            have c2 : wr.cell? ⟨b1, o1 + k, none⟩ = some (.string (S k)) := (show W2.grownBy wr (some wo.heap.size) from r4).cell (cell_on g1 l3) (fun e => by have := block_lt_of_cell g1; simp at e this; omega)
            have c3 : wr.ownsMap Try.prog 9 rTok w.heap.size k (.map es) := (ownsMap_on i2 l3).kept (show W2.grownBy wr (some wo.heap.size) from r4) (fun e => by have := i2.lt; simp at e; omega)
            have hkey : keyOf Try.prog 9 (.string (S k)) = some (.string (S k).data.toList) := keyOf_string_mk Try.underlying9 (HS.out k)
            obtain ⟨U, u1, u2⟩ := World.ownsMap.update c3.drew keyLaw Try.underlying32 (by unfold maxLen; omega) hkey (val := .pointer (some ⟨wo.heap.size + 1, 0, none⟩)) (d := .held (wo.heap.size + 1)) (ps := []) rfl
            have C1 : Hid (wr.cell? ⟨w.heap.size + 1 + 1, 0, none⟩ = some (.map (some w.heap.size))) := c1
            have C2 : Hid (wr.cell? ⟨b1, o1 + k, none⟩ = some (.string (S k))) := c2
            have HU : Hid (U.ownsMap Try.prog 9 rTok w.heap.size (k + 1) ((DataW.map es).put (.string (S k).data.toList) (.held (wo.heap.size + 1))) ∧ wr.drew.grownBy U (some w.heap.size)) := u2
            have q1 : b1 < w.heap.size := by have := block_lt_of_cell hc1; simpa using this
            clear u2 c3 hkey
            go_region_held3 (fun X => X.cell? ⟨w.heap.size + 1 + 1, 0, none⟩ = some (.map (some w.heap.size)) ∧ X.cell? ⟨b1, o1 + k, none⟩ = some (.string (S k)))
              (first | exact ⟨C1.out, C2.out⟩ | exact ⟨HU.out.2.cell C1.out (fun e => by simp at e <;> omega), HU.out.2.cell C2.out (fun e => by simp at e; omega)⟩)
              (fail)
            go_wp2
            exact ⟨⟨k + 1, by omega, by go_num, _, _, HI.out.step HL.out r4 r1 hd HU.out.1 HU.out.2⟩, by simp [intOf]; omega⟩
      · have hkm' : ¬ (k : Int) < (m : Int) := by omega
        go_wp2
        refine gen_world (Laid wo) (Laid.start _ _ _) ?_
        intro W2 hL
        have HL : Hid (Laid wo W2) := hL
        obtain ⟨l1, l2, l3, l4⟩ := hL
        have r4 : W2.grownBy W2 (some wo.heap.size) := ⟨rfl, rfl, rfl, Nat.le_refl _, fun _ _ _ => rfl⟩
        have hd : Maps.size (DataW.map [] : DataW Nat) = dc m ρ k := by unfold dc; rw [if_neg hkm]; rfl
        have c1 : W2.cell? ⟨w.heap.size + 1 + 1, 0, none⟩ = some (.map (some w.heap.size)) := (show W2.grownBy W2 (some wo.heap.size) from r4).cell (cell_on i1 l3) (fun e => by have := block_lt_of_cell i1; simp at e this; omega)
        have c2 : W2.cell? ⟨b1, o1 + k, none⟩ = some (.string (S k)) := (show W2.grownBy W2 (some wo.heap.size) from r4).cell (cell_on g1 l3) (fun e => by have := block_lt_of_cell g1; simp at e this; omega)
        have c3 : W2.ownsMap Try.prog 9 rTok w.heap.size k (.map es) := (ownsMap_on i2 l3).kept (show W2.grownBy W2 (some wo.heap.size) from r4) (fun e => by have := i2.lt; simp at e; omega)
        have hkey : keyOf Try.prog 9 (.string (S k)) = some (.string (S k).data.toList) := keyOf_string_mk Try.underlying9 (HS.out k)
        obtain ⟨U, u1, u2⟩ := World.ownsMap.update c3.drew keyLaw Try.underlying32 (by unfold maxLen; omega) hkey (val := .pointer (some ⟨wo.heap.size + 1, 0, none⟩)) (d := .held (wo.heap.size + 1)) (ps := []) rfl
        have C1 : Hid (W2.cell? ⟨w.heap.size + 1 + 1, 0, none⟩ = some (.map (some w.heap.size))) := c1
        have C2 : Hid (W2.cell? ⟨b1, o1 + k, none⟩ = some (.string (S k))) := c2
        have HU : Hid (U.ownsMap Try.prog 9 rTok w.heap.size (k + 1) ((DataW.map es).put (.string (S k).data.toList) (.held (wo.heap.size + 1))) ∧ W2.drew.grownBy U (some w.heap.size)) := u2
        have q1 : b1 < w.heap.size := by have := block_lt_of_cell hc1; simpa using this
        clear u2 c3 hkey
        go_region_held3 (fun X => X.cell? ⟨w.heap.size + 1 + 1, 0, none⟩ = some (.map (some w.heap.size)) ∧ X.cell? ⟨b1, o1 + k, none⟩ = some (.string (S k)))
          (first | exact ⟨C1.out, C2.out⟩ | exact ⟨HU.out.2.cell C1.out (fun e => by simp at e <;> omega), HU.out.2.cell C2.out (fun e => by simp at e; omega)⟩)
          (fail)
        go_wp2
        exact ⟨⟨k + 1, by omega, by go_num, _, _, HI.out.step HL.out r4 l2 hd HU.out.1 HU.out.2⟩, by simp [intOf]; omega⟩
    · have hkn : k = n := by omega
      subst hkn
      clear i2 i3 i4
      go_wp2
      go_ret
      exact HI.out.done
end Go.Proofs.Qxb6626881a
