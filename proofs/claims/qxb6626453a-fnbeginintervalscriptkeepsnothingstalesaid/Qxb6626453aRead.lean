/-
  bkRead: what it reads off a bookkeeper in memory.
-/
import Derived.Test.Qxb6626453aBegin
import Derived.Deep.DeepMust
namespace Go.Proofs.Qxb6626453a
open Go.ChangeShapes Go.WideShapes Go.ChangeAt Go.RowKit

abbrev snapVal (X : St) (kO : Bool) (oe : Int) (fr to : ByteArray) (kL : Bool) (le : Int) (va vk : Value) (bg : Int) : Value :=
  .agg #[.string X.name, .int .u64 X.ml, .int .u64 X.mh, .int .u64 X.pl, .int .u64 X.ph, .bool kO, .int .u64 oe, .string fr, .string to, .bool kL, .int .u64 le, va, vk, .int .u64 bg]

def ReadPost (X : St) (lo b : Nat) (kO kL : Bool) (bg : Int) (w : World) (e : Ending) (w' : World) : Prop :=
  ∃ va vk, e = .returned (snapVal X kO (if kO = true then X.oe else 0) (if kO = true then X.fr else ByteArray.empty) (if kO = true then X.to else ByteArray.empty) kL (if kL = true then X.le else 0) va vk bg) ∧
    RowIn w lo b va (if kL = true then X.na else 0) (fun i => .string (X.S i)) ∧ RowIn w lo b vk (if kL = true then X.nk else 0) (fun i => .bool (X.K i)) ∧ Below w.heap.size w w'

theorem cell_on {w W : World} {b i : Nat} {v : Value} (c : w.cell? ⟨b, i, none⟩ = some v) (hb : Below w.heap.size w W) : W.cell? ⟨b, i, none⟩ = some v := (hb.cell (p := ⟨b, i, none⟩) (block_lt_of_cell c)).trans c
theorem zzmem (b : Nat) (x y : Int) (w : World) (c1 : w.cell? ⟨b, 1, none⟩ = some (.int .u64 x)) (c2 : w.cell? ⟨b, 2, none⟩ = some (.int .u64 y)) :
    Calls Try.prog 25 #[.pointer (some ⟨b, 0, none⟩)] w fun e w' => e = .returned (.agg #[.int .u64 x, .int .u64 y]) ∧ w' = w.alloc (.cells #[.int .u64 x, .int .u64 y] 37) := by
  have hlt : b < w.heap.size := block_lt_of_cell c1
  go_enter Try.func25, Try.ntmps25
  go_wp2
  exact bodyPost_ret (v := .agg #[.int .u64 x, .int .u64 y]) (by simp [results, Try.results25, go_sem]) rfl ⟨rfl, rfl⟩

theorem zzper (b : Nat) (x y : Int) (w : World) (c1 : w.cell? ⟨b, 3, none⟩ = some (.int .u64 x)) (c2 : w.cell? ⟨b, 4, none⟩ = some (.int .u64 y)) :
    Calls Try.prog 26 #[.pointer (some ⟨b, 0, none⟩)] w fun e w' => e = .returned (.agg #[.int .u64 x, .int .u64 y]) ∧ w' = w.alloc (.cells #[.int .u64 x, .int .u64 y] 37) := by
  have hlt : b < w.heap.size := block_lt_of_cell c1
  go_enter Try.func26, Try.ntmps26
  go_wp2
  exact bodyPost_ret (v := .agg #[.int .u64 x, .int .u64 y]) (by simp [results, Try.results26, go_sem]) rfl ⟨rfl, rfl⟩

theorem read_ff (X : St) (lo b : Nat) (bg : Int) (w : World) (h : Bk w lo b X false false bg) :
    Calls Try.prog 13 #[.pointer (some ⟨b, 0, none⟩)] w (ReadPost X lo b false false bg w) := by
  obtain ⟨o, l, va, vk, hlo, hb, hO, hL⟩ := h
  replace hb : w.heap[b]? = some (.cells (bkCells X (none) (none) bg) 56) := hb
  have hlt := lt_of_heap hb
  have c0 : w.cell? ⟨b, 0, none⟩ = some (.string X.name) := cell_of_block hb (i := 0) rfl
  have c1 : w.cell? ⟨b, 1, none⟩ = some (.int .u64 X.ml) := cell_of_block hb (i := 1) rfl
  have c2 : w.cell? ⟨b, 2, none⟩ = some (.int .u64 X.mh) := cell_of_block hb (i := 2) rfl
  have c3 : w.cell? ⟨b, 3, none⟩ = some (.int .u64 X.pl) := cell_of_block hb (i := 3) rfl
  have c4 : w.cell? ⟨b, 4, none⟩ = some (.int .u64 X.ph) := cell_of_block hb (i := 4) rfl
  have c5 : w.cell? ⟨b, 5, none⟩ = some (.pointer (none)) := cell_of_block hb (i := 5) rfl
  have c6 : w.cell? ⟨b, 6, none⟩ = some (.pointer (none)) := cell_of_block hb (i := 6) rfl
  have c7 : w.cell? ⟨b, 7, none⟩ = some (.int .u64 bg) := cell_of_block hb (i := 7) rfl
  have HR1 : Hid (RowIn w lo b (.slice none 0 0) 0 (fun i => .string (X.S i))) := ⟨none, 0, rfl, fun h => by omega⟩
  have HR2 : Hid (RowIn w lo b (.slice none 0 0) 0 (fun i => .bool (X.K i))) := ⟨none, 0, rfl, fun h => by omega⟩
  have qb1 : b < w.heap.size + 1 := by omega
  have qb2 : b < w.heap.size + 1 + 1 := by omega
  have qb3 : b < w.heap.size + 1 + 1 + 1 := by omega
  have qb4 : b < w.heap.size + 1 + 1 + 1 + 1 := by omega
  have qb5 : b < w.heap.size + 1 + 1 + 1 + 1 + 1 := by omega
  clear hb hO hL
  go_enter Try.func13, Try.ntmps13
  go_wp2_with (first
    | (go_at_call 25; go_must (refine (zzmem b X.ml X.mh _ ?_ ?_).mono ?_; exact cell_on c1 (by go_grown); exact cell_on c2 (by go_grown); rintro e w' ⟨rfl, rfl⟩))
    | (go_at_call 26; go_must (refine (zzper b X.pl X.ph _ ?_ ?_).mono ?_; exact cell_on c3 (by go_grown); exact cell_on c4 (by go_grown); rintro e w' ⟨rfl, rfl⟩))
    | go_in)
  exact bodyPost_ret (v := snapVal X false 0 ByteArray.empty ByteArray.empty false 0 (.slice none 0 0) (.slice none 0 0) bg) (by simp [results, Try.results13, go_sem]; rfl) rfl ⟨_, _, rfl, HR1.out, HR2.out, by go_grown⟩

theorem read_ft (X : St) (lo b : Nat) (bg : Int) (w : World) (h : Bk w lo b X false true bg) :
    Calls Try.prog 13 #[.pointer (some ⟨b, 0, none⟩)] w (ReadPost X lo b false true bg w) := by
  obtain ⟨o, l, va, vk, hlo, hb, hO, hL⟩ := h
  replace hb : w.heap[b]? = some (.cells (bkCells X (none) (some ⟨l, 0, none⟩) bg) 56) := hb
  have hlt := lt_of_heap hb
  have c0 : w.cell? ⟨b, 0, none⟩ = some (.string X.name) := cell_of_block hb (i := 0) rfl
  have c1 : w.cell? ⟨b, 1, none⟩ = some (.int .u64 X.ml) := cell_of_block hb (i := 1) rfl
  have c2 : w.cell? ⟨b, 2, none⟩ = some (.int .u64 X.mh) := cell_of_block hb (i := 2) rfl
  have c3 : w.cell? ⟨b, 3, none⟩ = some (.int .u64 X.pl) := cell_of_block hb (i := 3) rfl
  have c4 : w.cell? ⟨b, 4, none⟩ = some (.int .u64 X.ph) := cell_of_block hb (i := 4) rfl
  have c5 : w.cell? ⟨b, 5, none⟩ = some (.pointer (none)) := cell_of_block hb (i := 5) rfl
  have c6 : w.cell? ⟨b, 6, none⟩ = some (.pointer (some ⟨l, 0, none⟩)) := cell_of_block hb (i := 6) rfl
  have c7 : w.cell? ⟨b, 7, none⟩ = some (.int .u64 bg) := cell_of_block hb (i := 7) rfl
  obtain ⟨hl1, hl2, hl3, ⟨aa, ca, rfl, hr1⟩, ⟨ak, ck, rfl, hr2⟩⟩ := hL rfl
  have g0 : w.cell? ⟨l, 0, none⟩ = some (.int .u64 X.le) := cell_of_block hl3 (i := 0) rfl
  have g1 : w.cell? ⟨l, 1, none⟩ = some (.slice aa X.na ca) := cell_of_block hl3 (i := 1) rfl
  have g2 : w.cell? ⟨l, 2, none⟩ = some (.slice ak X.nk ck) := cell_of_block hl3 (i := 2) rfl
  have hl4 : l < w.heap.size := by omega
  have HR1 : Hid (RowIn w lo b (.slice aa X.na ca) X.na (fun i => .string (X.S i))) := ⟨aa, ca, rfl, hr1⟩
  have HR2 : Hid (RowIn w lo b (.slice ak X.nk ck) X.nk (fun i => .bool (X.K i))) := ⟨ak, ck, rfl, hr2⟩
  clear hl3 hr1 hr2 hl1 hl2
  have qb1 : b < w.heap.size + 1 := by omega
  have qb2 : b < w.heap.size + 1 + 1 := by omega
  have qb3 : b < w.heap.size + 1 + 1 + 1 := by omega
  have qb4 : b < w.heap.size + 1 + 1 + 1 + 1 := by omega
  have qb5 : b < w.heap.size + 1 + 1 + 1 + 1 + 1 := by omega
  have ql1 : l < w.heap.size + 1 := by omega
  have ql2 : l < w.heap.size + 1 + 1 := by omega
  have ql3 : l < w.heap.size + 1 + 1 + 1 := by omega
  have ql4 : l < w.heap.size + 1 + 1 + 1 + 1 := by omega
  have ql5 : l < w.heap.size + 1 + 1 + 1 + 1 + 1 := by omega
  clear hb hO hL
  go_enter Try.func13, Try.ntmps13
  go_wp2_with (first
    | (go_at_call 25; go_must (refine (zzmem b X.ml X.mh _ ?_ ?_).mono ?_; exact cell_on c1 (by go_grown); exact cell_on c2 (by go_grown); rintro e w' ⟨rfl, rfl⟩))
    | (go_at_call 26; go_must (refine (zzper b X.pl X.ph _ ?_ ?_).mono ?_; exact cell_on c3 (by go_grown); exact cell_on c4 (by go_grown); rintro e w' ⟨rfl, rfl⟩))
    | go_in)
  exact bodyPost_ret (v := snapVal X false 0 ByteArray.empty ByteArray.empty true X.le (.slice aa X.na ca) (.slice ak X.nk ck) bg) (by simp [results, Try.results13, go_sem]; rfl) rfl ⟨_, _, rfl, HR1.out, HR2.out, by go_grown⟩

theorem read_tf (X : St) (lo b : Nat) (bg : Int) (w : World) (h : Bk w lo b X true false bg) :
    Calls Try.prog 13 #[.pointer (some ⟨b, 0, none⟩)] w (ReadPost X lo b true false bg w) := by
  obtain ⟨o, l, va, vk, hlo, hb, hO, hL⟩ := h
  replace hb : w.heap[b]? = some (.cells (bkCells X (some ⟨o, 0, none⟩) (none) bg) 56) := hb
  have hlt := lt_of_heap hb
  have c0 : w.cell? ⟨b, 0, none⟩ = some (.string X.name) := cell_of_block hb (i := 0) rfl
  have c1 : w.cell? ⟨b, 1, none⟩ = some (.int .u64 X.ml) := cell_of_block hb (i := 1) rfl
  have c2 : w.cell? ⟨b, 2, none⟩ = some (.int .u64 X.mh) := cell_of_block hb (i := 2) rfl
  have c3 : w.cell? ⟨b, 3, none⟩ = some (.int .u64 X.pl) := cell_of_block hb (i := 3) rfl
  have c4 : w.cell? ⟨b, 4, none⟩ = some (.int .u64 X.ph) := cell_of_block hb (i := 4) rfl
  have c5 : w.cell? ⟨b, 5, none⟩ = some (.pointer (some ⟨o, 0, none⟩)) := cell_of_block hb (i := 5) rfl
  have c6 : w.cell? ⟨b, 6, none⟩ = some (.pointer (none)) := cell_of_block hb (i := 6) rfl
  have c7 : w.cell? ⟨b, 7, none⟩ = some (.int .u64 bg) := cell_of_block hb (i := 7) rfl
  obtain ⟨ho1, ho2, ho3⟩ := hO rfl
  have d0 : w.cell? ⟨o, 0, none⟩ = some (.int .u64 X.oe) := cell_of_block ho3 (i := 0) rfl
  have d1 : w.cell? ⟨o, 1, none⟩ = some (.string X.fr) := cell_of_block ho3 (i := 1) rfl
  have d2 : w.cell? ⟨o, 2, none⟩ = some (.string X.to) := cell_of_block ho3 (i := 2) rfl
  have ho4 : o < w.heap.size := by omega
  clear ho1 ho2 ho3
  have HR1 : Hid (RowIn w lo b (.slice none 0 0) 0 (fun i => .string (X.S i))) := ⟨none, 0, rfl, fun h => by omega⟩
  have HR2 : Hid (RowIn w lo b (.slice none 0 0) 0 (fun i => .bool (X.K i))) := ⟨none, 0, rfl, fun h => by omega⟩
  have qb1 : b < w.heap.size + 1 := by omega
  have qb2 : b < w.heap.size + 1 + 1 := by omega
  have qb3 : b < w.heap.size + 1 + 1 + 1 := by omega
  have qb4 : b < w.heap.size + 1 + 1 + 1 + 1 := by omega
  have qb5 : b < w.heap.size + 1 + 1 + 1 + 1 + 1 := by omega
  have qo1 : o < w.heap.size + 1 := by omega
  have qo2 : o < w.heap.size + 1 + 1 := by omega
  have qo3 : o < w.heap.size + 1 + 1 + 1 := by omega
  have qo4 : o < w.heap.size + 1 + 1 + 1 + 1 := by omega
  have qo5 : o < w.heap.size + 1 + 1 + 1 + 1 + 1 := by omega
  clear hb hO hL
  go_enter Try.func13, Try.ntmps13
  go_wp2_with (first
    | (go_at_call 25; go_must (refine (zzmem b X.ml X.mh _ ?_ ?_).mono ?_; exact cell_on c1 (by go_grown); exact cell_on c2 (by go_grown); rintro e w' ⟨rfl, rfl⟩))
    | (go_at_call 26; go_must (refine (zzper b X.pl X.ph _ ?_ ?_).mono ?_; exact cell_on c3 (by go_grown); exact cell_on c4 (by go_grown); rintro e w' ⟨rfl, rfl⟩))
    | go_in)
  exact bodyPost_ret (v := snapVal X true X.oe X.fr X.to false 0 (.slice none 0 0) (.slice none 0 0) bg) (by simp [results, Try.results13, go_sem]) rfl ⟨_, _, rfl, HR1.out, HR2.out, by go_grown⟩

theorem read_tt (X : St) (lo b : Nat) (bg : Int) (w : World) (h : Bk w lo b X true true bg) :
    Calls Try.prog 13 #[.pointer (some ⟨b, 0, none⟩)] w (ReadPost X lo b true true bg w) := by
  obtain ⟨o, l, va, vk, hlo, hb, hO, hL⟩ := h
  replace hb : w.heap[b]? = some (.cells (bkCells X (some ⟨o, 0, none⟩) (some ⟨l, 0, none⟩) bg) 56) := hb
  have hlt := lt_of_heap hb
  have c0 : w.cell? ⟨b, 0, none⟩ = some (.string X.name) := cell_of_block hb (i := 0) rfl
  have c1 : w.cell? ⟨b, 1, none⟩ = some (.int .u64 X.ml) := cell_of_block hb (i := 1) rfl
  have c2 : w.cell? ⟨b, 2, none⟩ = some (.int .u64 X.mh) := cell_of_block hb (i := 2) rfl
  have c3 : w.cell? ⟨b, 3, none⟩ = some (.int .u64 X.pl) := cell_of_block hb (i := 3) rfl
  have c4 : w.cell? ⟨b, 4, none⟩ = some (.int .u64 X.ph) := cell_of_block hb (i := 4) rfl
  have c5 : w.cell? ⟨b, 5, none⟩ = some (.pointer (some ⟨o, 0, none⟩)) := cell_of_block hb (i := 5) rfl
  have c6 : w.cell? ⟨b, 6, none⟩ = some (.pointer (some ⟨l, 0, none⟩)) := cell_of_block hb (i := 6) rfl
  have c7 : w.cell? ⟨b, 7, none⟩ = some (.int .u64 bg) := cell_of_block hb (i := 7) rfl
  obtain ⟨ho1, ho2, ho3⟩ := hO rfl
  have d0 : w.cell? ⟨o, 0, none⟩ = some (.int .u64 X.oe) := cell_of_block ho3 (i := 0) rfl
  have d1 : w.cell? ⟨o, 1, none⟩ = some (.string X.fr) := cell_of_block ho3 (i := 1) rfl
  have d2 : w.cell? ⟨o, 2, none⟩ = some (.string X.to) := cell_of_block ho3 (i := 2) rfl
  have ho4 : o < w.heap.size := by omega
  clear ho1 ho2 ho3
  obtain ⟨hl1, hl2, hl3, ⟨aa, ca, rfl, hr1⟩, ⟨ak, ck, rfl, hr2⟩⟩ := hL rfl
  have g0 : w.cell? ⟨l, 0, none⟩ = some (.int .u64 X.le) := cell_of_block hl3 (i := 0) rfl
  have g1 : w.cell? ⟨l, 1, none⟩ = some (.slice aa X.na ca) := cell_of_block hl3 (i := 1) rfl
  have g2 : w.cell? ⟨l, 2, none⟩ = some (.slice ak X.nk ck) := cell_of_block hl3 (i := 2) rfl
  have hl4 : l < w.heap.size := by omega
  have HR1 : Hid (RowIn w lo b (.slice aa X.na ca) X.na (fun i => .string (X.S i))) := ⟨aa, ca, rfl, hr1⟩
  have HR2 : Hid (RowIn w lo b (.slice ak X.nk ck) X.nk (fun i => .bool (X.K i))) := ⟨ak, ck, rfl, hr2⟩
  clear hl3 hr1 hr2 hl1 hl2
  have qb1 : b < w.heap.size + 1 := by omega
  have qb2 : b < w.heap.size + 1 + 1 := by omega
  have qb3 : b < w.heap.size + 1 + 1 + 1 := by omega
  have qb4 : b < w.heap.size + 1 + 1 + 1 + 1 := by omega
  have qb5 : b < w.heap.size + 1 + 1 + 1 + 1 + 1 := by omega
  have qo1 : o < w.heap.size + 1 := by omega
  have qo2 : o < w.heap.size + 1 + 1 := by omega
  have qo3 : o < w.heap.size + 1 + 1 + 1 := by omega
  have qo4 : o < w.heap.size + 1 + 1 + 1 + 1 := by omega
  have qo5 : o < w.heap.size + 1 + 1 + 1 + 1 + 1 := by omega
  have ql1 : l < w.heap.size + 1 := by omega
  have ql2 : l < w.heap.size + 1 + 1 := by omega
  have ql3 : l < w.heap.size + 1 + 1 + 1 := by omega
  have ql4 : l < w.heap.size + 1 + 1 + 1 + 1 := by omega
  have ql5 : l < w.heap.size + 1 + 1 + 1 + 1 + 1 := by omega
  clear hb hO hL
  go_enter Try.func13, Try.ntmps13
  go_wp2_with (first
    | (go_at_call 25; go_must (refine (zzmem b X.ml X.mh _ ?_ ?_).mono ?_; exact cell_on c1 (by go_grown); exact cell_on c2 (by go_grown); rintro e w' ⟨rfl, rfl⟩))
    | (go_at_call 26; go_must (refine (zzper b X.pl X.ph _ ?_ ?_).mono ?_; exact cell_on c3 (by go_grown); exact cell_on c4 (by go_grown); rintro e w' ⟨rfl, rfl⟩))
    | go_in)
  exact bodyPost_ret (v := snapVal X true X.oe X.fr X.to true X.le (.slice aa X.na ca) (.slice ak X.nk ck) bg) (by simp [results, Try.results13, go_sem]) rfl ⟨_, _, rfl, HR1.out, HR2.out, by go_grown⟩

theorem read (X : St) (lo b : Nat) (kO kL : Bool) (bg : Int) (w : World) (h : Bk w lo b X kO kL bg) :
    Calls Try.prog 13 #[.pointer (some ⟨b, 0, none⟩)] w (ReadPost X lo b kO kL bg w) := by
  cases kO <;> cases kL
  · exact read_ff X lo b bg w h
  · exact read_ft X lo b bg w h
  · exact read_tf X lo b bg w h
  · exact read_tt X lo b bg w h
end Go.Proofs.Qxb6626453a
