/-
  FnBeginIntervalTwoBeginningsActAsTheGreater: the walk.
-/
import Derived.Test.Qxb6626453aLawC
namespace Go.Proofs.Qxb6626453a
open Go.ChangeShapes Go.WideShapes Go.ChangeAt Go.RowKit

set_option maxHeartbeats 4000000 in
theorem law1 (X : St) (va vk : Value) (e1 e2 : Int) (w : World) (ok : X.Ok) (ha : Row w va X.na (fun i => .string (X.S i))) (hk : Row w vk X.nk (fun i => .bool (X.K i))) :
    Calls Try.prog 3 #[stVal X va vk, .int .u64 e1, .int .u64 e2] w (LawPost w) := by
  have HA : Hid (Row w va X.na (fun i => .string (X.S i))) := ha
  have HK : Hid (Row w vk X.nk (fun i => .bool (X.K i))) := hk
  obtain ⟨a, ca, rfl, ha⟩ := ha
  obtain ⟨k, ck, rfl, hk⟩ := hk
  clear ha hk
  unfold stVal
  go_enter Try.func3, Try.ntmps3
  go_wp2_with fail
  refine (zzBytes1 X _ _ _ e1 e2 ok (HA.out.later ?_) (HK.out.later ?_)).mono ?_
  · go_grown
  · go_grown
  rintro e w1 ⟨r, rfl, hsz, hb1⟩
  have hx := (Box.new w X (.slice a X.na ca) (.slice k X.nk ck)).later hb1
  have hw1 : After w w1 := below_step ((Below.refl _ _).alloc (Nat.le_refl _) _) hb1
  have HX : Hid (Box w1 w.heap.size X (.slice a X.na ca) (.slice k X.nk ck)) := hx
  obtain ⟨c0, c1, c2, c3, c4, c5, c6, c7, c8, c9, c10, c11, c12, c13, f11, f12⟩ := hx.cells
  clear hx hb1
  cases r with
  | false =>
    go_wp2
    go_ret
    exact ⟨rfl, hw1⟩
  | true =>
  obtain ⟨hna, hnk⟩ := hsz rfl
  clear hsz
  go_wp2_with fail
  refine (stateBytes X _ _ _ ok (HA.out.later hw1) (HK.out.later hw1)).mono ?_
  rintro e w2 ⟨n, rfl, hb2⟩
  clear c0 c1 c2 c3 c4 c5 c6 c7 c8 c9 c10 c11 c12 c13 f11 f12
  have hx := HX.out.later hb2
  have hw2 : After w w2 := after_below hw1 hb2
  have HX2 : Hid (Box w2 w.heap.size X (.slice a X.na ca) (.slice k X.nk ck)) := hx
  obtain ⟨c0, c1, c2, c3, c4, c5, c6, c7, c8, c9, c10, c11, c12, c13, f11, f12⟩ := hx.cells
  clear hx hb2 HX hw1 w1
  by_cases hn : 1048576 < n
  · go_wp2_with fail
    go_ret
    exact ⟨rfl, hw2⟩
  go_wp2_with fail
  clear hn
  refine (reachable X _ _ _ (HA.out.later hw2) (HK.out.later hw2)).mono ?_
  rintro e w3 ⟨r, rfl, hreach, hb3⟩
  clear c0 c1 c2 c3 c4 c5 c6 c7 c8 c9 c10 c11 c12 c13 f11 f12
  have hx := HX2.out.later hb3
  have hw3 : After w w3 := after_below hw2 hb3
  have HX3 : Hid (Box w3 w.heap.size X (.slice a X.na ca) (.slice k X.nk ck)) := hx
  obtain ⟨c0, c1, c2, c3, c4, c5, c6, c7, c8, c9, c10, c11, c12, c13, f11, f12⟩ := hx.cells
  clear hx hb3 HX2 hw2 w2
  cases r with
  | false =>
    clear hreach
    go_wp2_with fail
    go_ret
    exact ⟨rfl, hw3⟩
  | true =>
  have HR : Hid ((X.hl = true → X.nk = X.na ∧ X.bg ≤ X.le) ∧ (X.ho = true → X.bg ≤ X.oe)) := hreach rfl
  clear hreach
  go_wp2_with fail
  refine (cloneStrings _ X.na X.S _ hna (HA.out.later hw3)).mono ?_
  rintro e w4 ⟨v1, rfl, ⟨a1, d1, rfl, hr1⟩, hb4⟩
  have HR1 : Hid (RowIn w4 w3.heap.size w4.heap.size (.slice a1 X.na d1) X.na (fun i => .string (X.S i))) := ⟨a1, d1, rfl, hr1⟩
  clear c0 c1 c2 c3 c4 c5 c6 c7 c8 c9 c10 c11 c12 c13 f11 f12
  obtain ⟨c0, c1, c2, c3, c4, c5, c6, c7, c8, c9, c10, c11, c12, c13, f11, f12⟩ := (HX3.out.later hb4).cells
  have hw4 : After w w4 := after_below hw3 hb4
  have HB4 : Hid (Below w3.heap.size w3 w4) := hb4
  clear hr1 hb4
  go_wp2_with fail
  refine (cloneBools _ X.nk X.K _ hnk (HK.out.later (hw4.out.setCell (Nat.le_refl _) _))).mono ?_
  rintro e w5 ⟨v2, rfl, ⟨a2, d2, rfl, hr2⟩, hb5⟩
  have hb5' : Below w4.heap.size (w4.setCell ⟨w.heap.size, 11, none⟩ (.slice a1 X.na d1)) w5 := by simpa using hb5
  have hrdy := ready_of hw3 HX3.out HR1.out HB4.out ⟨a2, d2, rfl, by simpa using hr2⟩ hb5'
  have HY : Hid (Ready w (w5.setCell ⟨w.heap.size, 12, none⟩ (.slice a2 X.nk d2)) X (.slice a1 X.na d1) (.slice a2 X.nk d2)) := hrdy
  clear c0 c1 c2 c3 c4 c5 c6 c7 c8 c9 c10 c11 c12 c13 f11 f12
  have hx5 := ((HX3.out.later HB4.out).set11 (.slice a1 X.na d1)).later hb5
  obtain ⟨c0, c1, c2, c3, c4, c5, c6, c7, c8, c9, c10, c11, c12, c13, f11, f12⟩ := hx5.cells
  clear hx5 hb5 hb5' hr2 hrdy
  go_wp2_with fail
  refine gen_calls (fun W => Ready w W X (.slice a1 X.na d1) (.slice a2 X.nk d2)) HY.out ?_
  intro W0 hY
  clear c0 c1 c2 c3 c4 c5 c6 c7 c8 c9 c10 c11 c12 c13 f11 f12 HY HB4 HR1 hw4 HX3 hw3 w4 w5 w3 HA HK
  obtain ⟨m, hm⟩ : ∃ m, m = max e1 e2 := ⟨_, rfl⟩
  have HM : Hid (m = max e1 e2) := hm
  clear hm
  obtain ⟨kO, kL, oe, fr, to, le, na, nk, bg, sn⟩ := Snap.any X m
  have hsize : w.heap.size < W0.heap.size := lt_of_heap hY.box
  refine (max_m HM.out W0).mono ?_
  rintro e w' ⟨rfl, hw'⟩
  replace hw' := hw'.symm
  subst hw'
  obtain ⟨c0, c1, c2, c3, c4, c5, c6, c7, c8, c9, c10, c11, c12, c13, f11, f12⟩ := hY.box.cells
  go_wp2_with fail
  clear c0 c1 c2 c3 c4 c5 c6 c7 c8 c9 c10 c11 c12 c13 f11 f12
  refine (build X _ _ _ hna hnk hY.r1 hY.r2).mono ?_
  rintro e wa ⟨ba, rfl, ka, la, na0⟩
  have aa : After W0 wa := na0
  go_wp2_with fail
  refine (beginInterval X _ ba _ _ _ e1 _ ka).mono ?_
  rintro e wa1 ⟨rfl, ka1, ga1⟩
  have aa1 : After W0 wa1 := after_grown aa ga1 ka.lt.1
  clear ga1 aa la na0
  go_wp2_with fail
  refine (beginInterval X _ ba _ _ _ e2 _ ka1).mono ?_
  rintro e wa2 ⟨rfl, ka2, ga2⟩
  have aa2 : After W0 wa2 := after_grown aa1 ga2 ka.lt.1
  clear ga2 aa1
  replace ka2 := sn.two HM.out ka2
  clear ka ka1 wa wa1
  obtain ⟨c0, c1, c2, c3, c4, c5, c6, c7, c8, c9, c10, c11, c12, c13, f11, f12⟩ := (hY.box.later aa2).cells
  go_wp2_with fail
  clear c0 c1 c2 c3 c4 c5 c6 c7 c8 c9 c10 c11 c12 c13 f11 f12
  refine (build X _ _ _ hna hnk (hY.r1.later aa2) (hY.r2.later aa2)).mono ?_
  rintro e wb ⟨bb, rfl, kb, lb, nb0⟩
  have sb : wa2.heap.size ≤ bb := kb.lt.1
  have sab : ba < wa2.heap.size := ka2.lt.2
  have ab : After W0 wb := after_below aa2 nb0
  have kab := ka2.below nb0
  go_wp2_with fail
  refine (beginInterval X _ bb _ _ _ e2 _ kb).mono ?_
  rintro e wb1 ⟨rfl, kb1, gb1⟩
  have ab1 : After W0 wb1 := after_grown ab gb1 (by have := aa2.out.size; omega)
  have kab1 := kab.grown gb1 (by omega)
  clear gb1 ab lb nb0 kab
  go_wp2_with fail
  refine (beginInterval X _ bb _ _ _ e1 _ kb1).mono ?_
  rintro e wb2 ⟨rfl, kb2, gb2⟩
  have ab2 : After W0 wb2 := after_grown ab1 gb2 (by have := aa2.out.size; omega)
  have kab2 := kab1.grown gb2 (by omega)
  clear gb2 ab1 kab1
  replace kb2 := sn.two (HM.out.trans (by omega)) kb2
  clear kb kb1 wb wb1
  obtain ⟨c0, c1, c2, c3, c4, c5, c6, c7, c8, c9, c10, c11, c12, c13, f11, f12⟩ := (hY.box.later ab2).cells
  go_wp2_with fail
  clear c0 c1 c2 c3 c4 c5 c6 c7 c8 c9 c10 c11 c12 c13 f11 f12
  refine (build X _ _ _ hna hnk (hY.r1.later ab2) (hY.r2.later ab2)).mono ?_
  rintro e wc ⟨bc, rfl, kc, lc, nc0⟩
  have sc : wb2.heap.size ≤ bc := kc.lt.1
  have sbc : bb < wb2.heap.size := kb2.lt.2
  have ac : After W0 wc := after_below ab2 nc0
  have kac := kab2.below nc0
  have kbc := kb2.below nc0
  go_wp2_with fail
  refine (beginInterval X _ bc _ _ _ m _ kc).mono ?_
  rintro e wc1 ⟨rfl, kc1, gc1⟩
  have ac1 : After W0 wc1 := after_grown ac gc1 (by have := ab2.out.size; omega)
  have kac1 := kac.grown gc1 (by omega)
  have kbc1 := kbc.grown gc1 (by omega)
  replace kc1 := sn.one kc1
  clear gc1 ac lc nc0 kac kbc kc kab2 kb2 ka2 ab2 aa2
  go_wp2_with fail
  refine (sn.read kac1).mono ?_
  rintro e wd ⟨xa1, xc1, xk1, xd1, rfl, ra1, rk1, hd⟩
  have ad : After W0 wd := after_below ac1 hd
  have kbd := kbc1.below hd
  have kcd := kc1.below hd
  clear ac1 kbc1 kc1
  go_wp2_with fail
  refine gen_calls (fun W => W.heap[wd.heap.size]? = some (.cells #[.string X.name, .int .u64 X.ml, .int .u64 X.mh, .int .u64 X.pl, .int .u64 X.ph, .bool kO, .int .u64 oe, .string fr, .string to, .bool kL, .int .u64 le, .slice xa1 na xc1, .slice xk1 nk xd1, .int .u64 bg] 41) ∧ Below wd.heap.size wd W) ⟨heap_new _ _ _ rfl, below_new _ _⟩ ?_
  rintro W1 ⟨h1, b1⟩
  have A1 : After W0 W1 := after_below ad b1
  have kb1 := kbd.below b1
  have kc1 := kcd.below b1
  have q1 := (ra1.row.later hd).later b1
  have p1 := (rk1.row.later hd).later b1
  clear ad kbd kcd ra1 rk1 hd kac1 b1
  generalize wd.heap.size = r1 at *
  refine (sn.read kb1).mono ?_
  rintro e we ⟨xa2, xc2, xk2, xd2, rfl, ra2, rk2, hd2⟩
  go_wp2_with fail
  refine gen_calls (fun W => W.heap[we.heap.size]? = some (.cells #[.string X.name, .int .u64 X.ml, .int .u64 X.mh, .int .u64 X.pl, .int .u64 X.ph, .bool kO, .int .u64 oe, .string fr, .string to, .bool kL, .int .u64 le, .slice xa2 na xc2, .slice xk2 nk xd2, .int .u64 bg] 41) ∧ Below we.heap.size we W) ⟨heap_new _ _ _ rfl, below_new _ _⟩ ?_
  rintro W2 ⟨h2, b2⟩
  have A2 : After W0 W2 := after_below (after_below A1 hd2) b2
  have kc2 := (kc1.below hd2).below b2
  have h12 := heap_on (heap_on h1 hd2) b2
  have q12 := (q1.later hd2).later b2
  have p12 := (p1.later hd2).later b2
  have q2 := (ra2.row.later hd2).later b2
  have p2 := (rk2.row.later hd2).later b2
  clear kb1 kc1 h1 q1 p1 ra2 rk2 hd2 b2 A1
  generalize we.heap.size = r2 at *
  refine (sn.read kc2).mono ?_
  rintro e wf ⟨xa3, xc3, xk3, xd3, rfl, ra3, rk3, hd3⟩
  go_wp2_with fail
  refine gen_world (fun W => W.heap[wf.heap.size]? = some (.cells #[.string X.name, .int .u64 X.ml, .int .u64 X.mh, .int .u64 X.pl, .int .u64 X.ph, .bool kO, .int .u64 oe, .string fr, .string to, .bool kL, .int .u64 le, .slice xa3 na xc3, .slice xk3 nk xd3, .int .u64 bg] 41) ∧ Below wf.heap.size wf W) ⟨heap_new _ _ _ rfl, below_new _ _⟩ ?_
  rintro Wz ⟨h3, b3⟩
  have A3 : After W0 Wz := after_below (after_below A2 hd3) b3
  have h13 := heap_on (heap_on h12 hd3) b3
  have h23 := heap_on (heap_on h2 hd3) b3
  have q13 := (q12.later hd3).later b3
  have p13 := (p12.later hd3).later b3
  have q23 := (q2.later hd3).later b3
  have p23 := (p2.later hd3).later b3
  have q3 := (ra3.row.later hd3).later b3
  have p3 := (rk3.row.later hd3).later b3
  clear kc2 h12 h2 q12 p12 q2 p2 ra3 rk3 hd3 b3 A2
  generalize wf.heap.size = r3 at *
  obtain ⟨va', vk', rva, rvk, hexp⟩ := sn.rows (hY.r1.later A3) (hY.r2.later A3)
  have L1 := fun (x : Lat Wz) => snapCells (x.heap h13)
  have L2 := fun (x : Lat Wz) => snapCells (x.heap h23)
  have L3 := fun (x : Lat Wz) => snapCells (x.heap h3)
  have LB := fun (x : Lat Wz) => ((hY.box.later A3).later x.h).cells
  have E1 := fun (x : Lat Wz) => eqLat x X kO oe fr to kL le bg na nk _ _ _ _ (sn.bna hna) (sn.bnk hnk) q13 p13 q3 p3
  have E2 := fun (x : Lat Wz) => eqLat x X kO oe fr to kL le bg na nk _ _ _ _ (sn.bna hna) (sn.bnk hnk) q23 p23 q3 p3
  have E3 := fun (x : Lat Wz) => eqLat x X kO oe fr to kL le bg na nk _ _ _ _ (sn.bna hna) (sn.bnk hnk) q3 p3 rva rvk
  have E4 := fun (x : Lat Wz) => hexp Wz x (hY.r1.later A3) (hY.r2.later A3)
  have HE1 := hid E1
  have HE2 := hid E2
  have HE3 := hid E3
  have HE4 := hid E4
  clear h13 h23 h3 q13 p13 q23 p23 q3 p3 rva rvk hexp E1 E2 E3 E4
  have hne : Nonempty (Lat Wz) := ⟨⟨Wz, Below.refl _ _⟩⟩
  refine wp_region_lat (by kernel_rfl) (by kernel_rfl) ?_
  iterate 3 (go_big_quiet_step (exact HE1.out _))
  iterate 4 (go_big_quiet_step (exact HE2.out _))
  iterate 6 (go_big_quiet_step (exact HE4.out _))
  iterate 1 (go_big_quiet_step (exact HE3.out _))
  iterate 2 (go_big_quiet_step (fail))
  refine wpQuiet_nil ?_
  rintro _ ⟨x, rfl⟩
  go_wp2
  go_ret
  exact ⟨rfl, below_step (below_step hY.after A3) x.h⟩
end Go.Proofs.Qxb6626453a
