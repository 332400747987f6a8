/-
  bkBuild: what it lays in memory.
-/
import Derived.Test.Qxb6626453aBuildA
import Derived.Deep.RegionHeld3
namespace Go.Proofs.Qxb6626453a
open Go.ChangeShapes Go.WideShapes Go.ChangeAt Go.RowKit

theorem build_ff (X : St) (va vk : Value) (w : World) (ho : X.ho = false) (hl : X.hl = false) (ha : Row w va X.na (fun i => .string (X.S i))) (hk : Row w vk X.nk (fun i => .bool (X.K i))) :
    Calls Try.prog 11 #[stVal X va vk] w (BuildPost X w) := by
  obtain ⟨a, ca, rfl, ha⟩ := ha
  obtain ⟨k, ck, rfl, hk⟩ := hk
  clear hk ha
  unfold stVal
  go_enter Try.func11, Try.ntmps11
  go_wp2_with (go_at_call 22; refine (newBk _ _ _ _ _ _ _ _ _).mono ?_; rintro e w4 ⟨rfl, rfl⟩)
  go_ret
  refine built_f X w _ hl 0 _ (by rw [ho]; rfl) (by go_grown) (fun h => by rw [ho] at h; cases h) _ _ _ (by simp)

theorem build_tf (X : St) (va vk : Value) (w : World) (ho : X.ho = true) (hl : X.hl = false) (ha : Row w va X.na (fun i => .string (X.S i))) (hk : Row w vk X.nk (fun i => .bool (X.K i))) :
    Calls Try.prog 11 #[stVal X va vk] w (BuildPost X w) := by
  obtain ⟨a, ca, rfl, ha⟩ := ha
  obtain ⟨k, ck, rfl, hk⟩ := hk
  clear hk ha
  unfold stVal
  go_enter Try.func11, Try.ntmps11
  go_wp2_with (go_at_call 22; refine (newBk _ _ _ _ _ _ _ _ _).mono ?_; rintro e w4 ⟨rfl, rfl⟩)
  go_ret
  refine built_f X w _ hl (w.heap.size + 1 + 1 + 1) _ (by rw [ho]; rfl) (by go_grown) (fun h => ⟨by omega, heap_new _ _ _ (by simp)⟩) _ _ _ (by simp)

set_option maxHeartbeats 1000000 in
theorem build_ft (X : St) (va vk : Value) (w : World) (hna : X.na ≤ 1048576) (hnk : X.nk ≤ 1048576) (ho : X.ho = false) (hl : X.hl = true) (ha : Row w va X.na (fun i => .string (X.S i))) (hk : Row w vk X.nk (fun i => .bool (X.K i))) :
    Calls Try.prog 11 #[stVal X va vk] w (BuildPost X w) := by
  have HA : Hid (Row w va X.na (fun i => .string (X.S i))) := ha
  have HK : Hid (Row w vk X.nk (fun i => .bool (X.K i))) := hk
  obtain ⟨a, ca, rfl, ha⟩ := ha
  obtain ⟨k, ck, rfl, hk⟩ := hk
  clear hk ha
  unfold stVal
  go_enter Try.func11, Try.ntmps11
  go_wp2
  refine gen_world (BoxS X w.heap.size (.slice a X.na ca) (.slice k X.nk ck) w) (boxS_start _ _ _ _ _ _) ?_
  intro W0 hS0
  have HB0 : After w W0 := hS0.2.2.2.2.2.2.2.2.2
  generalize hB : w.heap.size = B at *
  have HB : Hid (w.heap.size = B) := hB
  clear hB
  go_region_held3 (fun W => W.cell? ⟨B, 0, none⟩ = some (.string X.name) ∧ W.cell? ⟨B, 10, none⟩ = some (.int .u64 X.le) ∧ W.cell? ⟨B, 11, none⟩ = some (.slice a X.na ca) ∧ W.cell? ⟨B, 12, none⟩ = some (.slice k X.nk ck) ∧
      W.cell? ⟨B, 13, none⟩ = some (.int .u64 X.bg) ∧ W.cell? ⟨B + 1, 0, none⟩ = some (.int .u64 X.ml) ∧ W.cell? ⟨B + 1, 1, none⟩ = some (.int .u64 X.mh) ∧ W.cell? ⟨B + 1 + 1, 0, none⟩ = some (.int .u64 X.pl) ∧ W.cell? ⟨B + 1 + 1, 1, none⟩ = some (.int .u64 X.ph) ∧ Below B w W)
    (first | exact boxS_drew hS0 | exact boxS_below (boxS_drew hS0) hb1 | exact boxS_below (boxS_below (boxS_drew hS0) hb1) hb2 | exact boxS_alloc _ (boxS_below (boxS_below (boxS_drew hS0) hb1) hb2) | exact boxS_alloc _ (boxS_alloc _ (boxS_alloc _ (boxS_alloc _ (boxS_below (boxS_below (boxS_drew hS0) hb1) hb2)))))
    (first
      | (go_at_call 8; refine (cloneStrings _ X.na X.S _ hna (Row.later HA.out (HB0.out.drew))).mono ?_; rintro e w1 ⟨v1, rfl, ⟨a1, c1, rfl, hr1⟩, hb1⟩)
      | (go_at_call 9; refine (cloneBools _ X.nk X.K _ hnk (Row.later HK.out (below_step HB0.out.drew hb1))).mono ?_; rintro e w2 ⟨v2, rfl, ⟨a2, c2, rfl, hr2⟩, hb2⟩)
      | (go_at_call 23; refine (newLead _ _ _ _ _ _ _ _).mono ?_; rintro e w3 ⟨rfl, rfl⟩)
      | (go_at_call 22; refine (newBk _ _ _ _ _ _ _ _ _).mono ?_; rintro e w4 ⟨rfl, rfl⟩))
  go_wp2
  go_ret
  exact built_t X w W0.drew w1 w2 hl 0 _ (by rw [ho]; rfl) HB0.out.drew (fun h => by rw [ho] at h; cases h) _ _ ⟨a1, c1, rfl, hr1⟩ hb1 ⟨a2, c2, rfl, hr2⟩ hb2 _ _ _ _ rfl rfl
set_option maxHeartbeats 1000000 in
theorem build_tt (X : St) (va vk : Value) (w : World) (hna : X.na ≤ 1048576) (hnk : X.nk ≤ 1048576) (ho : X.ho = true) (hl : X.hl = true) (ha : Row w va X.na (fun i => .string (X.S i))) (hk : Row w vk X.nk (fun i => .bool (X.K i))) :
    Calls Try.prog 11 #[stVal X va vk] w (BuildPost X w) := by
  have HA : Hid (Row w va X.na (fun i => .string (X.S i))) := ha
  have HK : Hid (Row w vk X.nk (fun i => .bool (X.K i))) := hk
  obtain ⟨a, ca, rfl, ha⟩ := ha
  obtain ⟨k, ck, rfl, hk⟩ := hk
  clear hk ha
  unfold stVal
  go_enter Try.func11, Try.ntmps11
  go_wp2
  refine gen_world (fun W => BoxS X w.heap.size (.slice a X.na ca) (.slice k X.nk ck) w W ∧ W.heap[w.heap.size + 1 + 1 + 1]? = some (.cells #[.int .u64 X.oe, .string X.fr, .string X.to] 39)) ⟨boxS_alloc _ (boxS_start _ _ _ _ _ _), heap_new _ _ _ (by simp)⟩ ?_
  rintro W0 ⟨hS0, hO⟩
  have HO : OwAt w W0 X (w.heap.size + 1 + 1 + 1) := ⟨by omega, hO⟩
  clear hO
  have HB0 : After w W0 := hS0.2.2.2.2.2.2.2.2.2
  generalize hB : w.heap.size = B at *
  have HB : Hid (w.heap.size = B) := hB
  clear hB
  go_region_held3 (fun W => W.cell? ⟨B, 0, none⟩ = some (.string X.name) ∧ W.cell? ⟨B, 10, none⟩ = some (.int .u64 X.le) ∧ W.cell? ⟨B, 11, none⟩ = some (.slice a X.na ca) ∧ W.cell? ⟨B, 12, none⟩ = some (.slice k X.nk ck) ∧
      W.cell? ⟨B, 13, none⟩ = some (.int .u64 X.bg) ∧ W.cell? ⟨B + 1, 0, none⟩ = some (.int .u64 X.ml) ∧ W.cell? ⟨B + 1, 1, none⟩ = some (.int .u64 X.mh) ∧ W.cell? ⟨B + 1 + 1, 0, none⟩ = some (.int .u64 X.pl) ∧ W.cell? ⟨B + 1 + 1, 1, none⟩ = some (.int .u64 X.ph) ∧ Below B w W)
    (first | exact boxS_drew hS0 | exact boxS_below (boxS_drew hS0) hb1 | exact boxS_below (boxS_below (boxS_drew hS0) hb1) hb2 | exact boxS_alloc _ (boxS_below (boxS_below (boxS_drew hS0) hb1) hb2) | exact boxS_alloc _ (boxS_alloc _ (boxS_alloc _ (boxS_alloc _ (boxS_below (boxS_below (boxS_drew hS0) hb1) hb2)))))
    (first
      | (go_at_call 8; refine (cloneStrings _ X.na X.S _ hna (Row.later HA.out (HB0.out.drew))).mono ?_; rintro e w1 ⟨v1, rfl, ⟨a1, c1, rfl, hr1⟩, hb1⟩)
      | (go_at_call 9; refine (cloneBools _ X.nk X.K _ hnk (Row.later HK.out (below_step HB0.out.drew hb1))).mono ?_; rintro e w2 ⟨v2, rfl, ⟨a2, c2, rfl, hr2⟩, hb2⟩)
      | (go_at_call 23; refine (newLead _ _ _ _ _ _ _ _).mono ?_; rintro e w3 ⟨rfl, rfl⟩)
      | (go_at_call 22; refine (newBk _ _ _ _ _ _ _ _ _).mono ?_; rintro e w4 ⟨rfl, rfl⟩))
  go_wp2
  go_ret
  exact built_t X w W0.drew w1 w2 hl (B + 1 + 1 + 1) _ (by rw [ho]; rfl) HB0.out.drew (fun h => HO.out) _ _ ⟨a1, c1, rfl, hr1⟩ hb1 ⟨a2, c2, rfl, hr2⟩ hb2 _ _ _ _ rfl rfl

theorem build (X : St) (va vk : Value) (w : World) (hna : X.na ≤ 1048576) (hnk : X.nk ≤ 1048576) (ha : Row w va X.na (fun i => .string (X.S i))) (hk : Row w vk X.nk (fun i => .bool (X.K i))) :
    Calls Try.prog 11 #[stVal X va vk] w (BuildPost X w) := by
  cases ho : X.ho <;> cases hl : X.hl
  · exact build_ff X va vk w ho hl ha hk
  · exact build_ft X va vk w hna hnk ho hl ha hk
  · exact build_tf X va vk w ho hl ha hk
  · exact build_tt X va vk w hna hnk ho hl ha hk
end Go.Proofs.Qxb6626453a
