/-
  bkExpect: the state that is promised.
-/
import Derived.Test.Qxb6626453aRead
namespace Go.Proofs.Qxb6626453a
open Go.ChangeShapes Go.WideShapes Go.ChangeAt Go.RowKit

def ExpectPost (X : St) (va vk : Value) (kO kL : Bool) (bg : Int) (w : World) (e : Ending) (w' : World) : Prop :=
  e = .returned (snapVal X kO (if kO = true then X.oe else 0) (if kO = true then X.fr else ByteArray.empty) (if kO = true then X.to else ByteArray.empty) kL (if kL = true then X.le else 0)
    (if kL = true then va else .slice none 0 0) (if kL = true then vk else .slice none 0 0) bg) ∧ Below w.heap.size w w'

theorem expect_nn (X : St) (a : Option Addr) (n ca : Nat) (k : Option Addr) (q ck : Nat) (m : Int) (w : World) (ho : X.ho = false) (hl : X.hl = false) :
    Calls Try.prog 15 #[stVal X (.slice a n ca) (.slice k q ck), .int .u64 m] w (ExpectPost X (.slice a n ca) (.slice k q ck) false false (max X.bg m) w) := by
  unfold stVal
  go_enter Try.func15, Try.ntmps15
  go_wp2_with (go_at_call 10; refine (max_any _ _ _).mono ?_; rintro e w' ⟨rfl, rfl⟩)
  exact bodyPost_ret (v := snapVal X false 0 ByteArray.empty ByteArray.empty false 0 (.slice none 0 0) (.slice none 0 0) (max X.bg m)) (by simp [results, Try.results15, go_sem]; rfl) rfl ⟨rfl, by go_grown⟩

theorem expect_nk (X : St) (a : Option Addr) (n ca : Nat) (k : Option Addr) (q ck : Nat) (m : Int) (w : World) (ho : X.ho = false) (hl : X.hl = true) (h1 : m ≤ X.le) :
    Calls Try.prog 15 #[stVal X (.slice a n ca) (.slice k q ck), .int .u64 m] w (ExpectPost X (.slice a n ca) (.slice k q ck) false true (max X.bg m) w) := by
  unfold stVal
  go_enter Try.func15, Try.ntmps15
  go_wp2_with (go_at_call 10; refine (max_any _ _ _).mono ?_; rintro e w' ⟨rfl, rfl⟩)
  exact bodyPost_ret (v := snapVal X false 0 ByteArray.empty ByteArray.empty true X.le (.slice a n ca) (.slice k q ck) (max X.bg m)) (by simp [results, Try.results15, go_sem]; rfl) rfl ⟨rfl, by go_grown⟩

theorem expect_nd (X : St) (a : Option Addr) (n ca : Nat) (k : Option Addr) (q ck : Nat) (m : Int) (w : World) (ho : X.ho = false) (hl : X.hl = true) (h1 : X.le < m) :
    Calls Try.prog 15 #[stVal X (.slice a n ca) (.slice k q ck), .int .u64 m] w (ExpectPost X (.slice a n ca) (.slice k q ck) false false (max X.bg m) w) := by
  unfold stVal
  go_enter Try.func15, Try.ntmps15
  go_wp2_with (go_at_call 10; refine (max_any _ _ _).mono ?_; rintro e w' ⟨rfl, rfl⟩)
  exact bodyPost_ret (v := snapVal X false 0 ByteArray.empty ByteArray.empty false 0 (.slice none 0 0) (.slice none 0 0) (max X.bg m)) (by simp [results, Try.results15, go_sem]; rfl) rfl ⟨rfl, by go_grown⟩

theorem expect_kn (X : St) (a : Option Addr) (n ca : Nat) (k : Option Addr) (q ck : Nat) (m : Int) (w : World) (ho : X.ho = true) (hl : X.hl = false) (h2 : m ≤ X.oe) :
    Calls Try.prog 15 #[stVal X (.slice a n ca) (.slice k q ck), .int .u64 m] w (ExpectPost X (.slice a n ca) (.slice k q ck) true false (max X.bg m) w) := by
  unfold stVal
  go_enter Try.func15, Try.ntmps15
  go_wp2_with (go_at_call 10; refine (max_any _ _ _).mono ?_; rintro e w' ⟨rfl, rfl⟩)
  exact bodyPost_ret (v := snapVal X true X.oe X.fr X.to false 0 (.slice none 0 0) (.slice none 0 0) (max X.bg m)) (by simp [results, Try.results15, go_sem]) rfl ⟨rfl, by go_grown⟩

theorem expect_kk (X : St) (a : Option Addr) (n ca : Nat) (k : Option Addr) (q ck : Nat) (m : Int) (w : World) (ho : X.ho = true) (hl : X.hl = true) (h2 : m ≤ X.oe) (h1 : m ≤ X.le) :
    Calls Try.prog 15 #[stVal X (.slice a n ca) (.slice k q ck), .int .u64 m] w (ExpectPost X (.slice a n ca) (.slice k q ck) true true (max X.bg m) w) := by
  unfold stVal
  go_enter Try.func15, Try.ntmps15
  go_wp2_with (go_at_call 10; refine (max_any _ _ _).mono ?_; rintro e w' ⟨rfl, rfl⟩)
  exact bodyPost_ret (v := snapVal X true X.oe X.fr X.to true X.le (.slice a n ca) (.slice k q ck) (max X.bg m)) (by simp [results, Try.results15, go_sem]) rfl ⟨rfl, by go_grown⟩

theorem expect_kd (X : St) (a : Option Addr) (n ca : Nat) (k : Option Addr) (q ck : Nat) (m : Int) (w : World) (ho : X.ho = true) (hl : X.hl = true) (h2 : m ≤ X.oe) (h1 : X.le < m) :
    Calls Try.prog 15 #[stVal X (.slice a n ca) (.slice k q ck), .int .u64 m] w (ExpectPost X (.slice a n ca) (.slice k q ck) true false (max X.bg m) w) := by
  unfold stVal
  go_enter Try.func15, Try.ntmps15
  go_wp2_with (go_at_call 10; refine (max_any _ _ _).mono ?_; rintro e w' ⟨rfl, rfl⟩)
  exact bodyPost_ret (v := snapVal X true X.oe X.fr X.to false 0 (.slice none 0 0) (.slice none 0 0) (max X.bg m)) (by simp [results, Try.results15, go_sem]) rfl ⟨rfl, by go_grown⟩

theorem expect_dn (X : St) (a : Option Addr) (n ca : Nat) (k : Option Addr) (q ck : Nat) (m : Int) (w : World) (ho : X.ho = true) (hl : X.hl = false) (h2 : X.oe < m) :
    Calls Try.prog 15 #[stVal X (.slice a n ca) (.slice k q ck), .int .u64 m] w (ExpectPost X (.slice a n ca) (.slice k q ck) false false (max X.bg m) w) := by
  unfold stVal
  go_enter Try.func15, Try.ntmps15
  go_wp2_with (go_at_call 10; refine (max_any _ _ _).mono ?_; rintro e w' ⟨rfl, rfl⟩)
  exact bodyPost_ret (v := snapVal X false 0 ByteArray.empty ByteArray.empty false 0 (.slice none 0 0) (.slice none 0 0) (max X.bg m)) (by simp [results, Try.results15, go_sem]; rfl) rfl ⟨rfl, by go_grown⟩

theorem expect_dk (X : St) (a : Option Addr) (n ca : Nat) (k : Option Addr) (q ck : Nat) (m : Int) (w : World) (ho : X.ho = true) (hl : X.hl = true) (h2 : X.oe < m) (h1 : m ≤ X.le) :
    Calls Try.prog 15 #[stVal X (.slice a n ca) (.slice k q ck), .int .u64 m] w (ExpectPost X (.slice a n ca) (.slice k q ck) false true (max X.bg m) w) := by
  unfold stVal
  go_enter Try.func15, Try.ntmps15
  go_wp2_with (go_at_call 10; refine (max_any _ _ _).mono ?_; rintro e w' ⟨rfl, rfl⟩)
  exact bodyPost_ret (v := snapVal X false 0 ByteArray.empty ByteArray.empty true X.le (.slice a n ca) (.slice k q ck) (max X.bg m)) (by simp [results, Try.results15, go_sem]; rfl) rfl ⟨rfl, by go_grown⟩

theorem expect_dd (X : St) (a : Option Addr) (n ca : Nat) (k : Option Addr) (q ck : Nat) (m : Int) (w : World) (ho : X.ho = true) (hl : X.hl = true) (h2 : X.oe < m) (h1 : X.le < m) :
    Calls Try.prog 15 #[stVal X (.slice a n ca) (.slice k q ck), .int .u64 m] w (ExpectPost X (.slice a n ca) (.slice k q ck) false false (max X.bg m) w) := by
  unfold stVal
  go_enter Try.func15, Try.ntmps15
  go_wp2_with (go_at_call 10; refine (max_any _ _ _).mono ?_; rintro e w' ⟨rfl, rfl⟩)
  exact bodyPost_ret (v := snapVal X false 0 ByteArray.empty ByteArray.empty false 0 (.slice none 0 0) (.slice none 0 0) (max X.bg m)) (by simp [results, Try.results15, go_sem]; rfl) rfl ⟨rfl, by go_grown⟩

theorem expect (X : St) (va vk : Value) (m : Int) (w : World) (ha : Row w va X.na (fun i => .string (X.S i))) (hk : Row w vk X.nk (fun i => .bool (X.K i))) :
    Calls Try.prog 15 #[stVal X va vk, .int .u64 m] w (ExpectPost X va vk (X.ho && decide (m ≤ X.oe)) (X.hl && decide (m ≤ X.le)) (max X.bg m) w) := by
  obtain ⟨a, ca, rfl, _⟩ := ha
  obtain ⟨k, ck, rfl, _⟩ := hk
  cases ho : X.ho <;> cases hl : X.hl
  · exact expect_nn X a _ ca k _ ck m w ho hl
  · by_cases h1 : X.le < m
    · rw [show decide (m ≤ X.le) = false from decide_eq_false (by omega)]; exact expect_nd X a _ ca k _ ck m w ho hl h1
    · rw [show decide (m ≤ X.le) = true from decide_eq_true (by omega)]; exact expect_nk X a _ ca k _ ck m w ho hl (by omega)
  · by_cases h2 : X.oe < m
    · rw [show decide (m ≤ X.oe) = false from decide_eq_false (by omega)]; exact expect_dn X a _ ca k _ ck m w ho hl h2
    · rw [show decide (m ≤ X.oe) = true from decide_eq_true (by omega)]; exact expect_kn X a _ ca k _ ck m w ho hl (by omega)
  · by_cases h1 : X.le < m
    · rw [show decide (m ≤ X.le) = false from decide_eq_false (by omega)]
      by_cases h2 : X.oe < m
      · rw [show decide (m ≤ X.oe) = false from decide_eq_false (by omega)]; exact expect_dd X a _ ca k _ ck m w ho hl h2 h1
      · rw [show decide (m ≤ X.oe) = true from decide_eq_true (by omega)]; exact expect_kd X a _ ca k _ ck m w ho hl (by omega) h1
    · rw [show decide (m ≤ X.le) = true from decide_eq_true (by omega)]
      by_cases h2 : X.oe < m
      · rw [show decide (m ≤ X.oe) = false from decide_eq_false (by omega)]; exact expect_dk X a _ ca k _ ck m w ho hl h2 (by omega)
      · rw [show decide (m ≤ X.oe) = true from decide_eq_true (by omega)]; exact expect_kk X a _ ca k _ ck m w ho hl (by omega) (by omega)
end Go.Proofs.Qxb6626453a
