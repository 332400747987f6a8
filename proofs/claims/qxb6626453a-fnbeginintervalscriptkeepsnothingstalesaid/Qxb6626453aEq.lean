/-
  bkEqSnap at two snapshots that hold the same.
-/
import Derived.Test.Qxb6626453aRead
import Derived.WalkSmall
namespace Go.Proofs.Qxb6626453a
open Go.ChangeShapes Go.WideShapes Go.ChangeAt Go.RowKit

def TruePost (w : World) (e : Ending) (w' : World) : Prop := e = .returned (.bool true) ∧ Below w.heap.size w w'

theorem eqSnap (X : St) (kO : Bool) (oe : Int) (fr to : ByteArray) (kL : Bool) (le bg : Int) (na nk : Nat) (va vk va' vk' : Value) (w : World) (hna : na ≤ 1048576) (hnk : nk ≤ 1048576)
    (ha : Row w va na (fun i => .string (X.S i))) (hk : Row w vk nk (fun i => .bool (X.K i))) (ha' : Row w va' na (fun i => .string (X.S i))) (hk' : Row w vk' nk (fun i => .bool (X.K i))) :
    Calls Try.prog 14 #[snapVal X kO oe fr to kL le va vk bg, snapVal X kO oe fr to kL le va' vk' bg] w (TruePost w) := by
  have HA : Hid (Row w va na (fun i => .string (X.S i))) := ha
  have HK : Hid (Row w vk nk (fun i => .bool (X.K i))) := hk
  have HA' : Hid (Row w va' na (fun i => .string (X.S i))) := ha'
  have HK' : Hid (Row w vk' nk (fun i => .bool (X.K i))) := hk'
  obtain ⟨a, ca, rfl, ha⟩ := ha
  obtain ⟨k, ck, rfl, hk⟩ := hk
  obtain ⟨a', ca', rfl, ha'⟩ := ha'
  obtain ⟨k', ck', rfl, hk'⟩ := hk'
  clear ha hk ha' hk'
  unfold snapVal
  go_enter Try.func14, Try.ntmps14
  go_wp2_with (first
    | (go_at_call 29; go_must (refine (eqStrings_true _ _ na X.S _ hna (HA.out.later (by go_grown)) (HA'.out.later (by go_grown))).mono ?_; rintro e w1 ⟨rfl, m1, rfl⟩))
    | (go_at_call 30; go_must (refine (eqBools_true _ _ nk X.K _ hnk (HK.out.later (below_drewN (by go_grown) _)) (HK'.out.later (below_drewN (by go_grown) _))).mono ?_; rintro e w2 ⟨rfl, m2, rfl⟩)))
  go_ret
  refine ⟨rfl, ?_⟩
  repeat (refine below_drewN ?_ _)
  go_grown
end Go.Proofs.Qxb6626453a
