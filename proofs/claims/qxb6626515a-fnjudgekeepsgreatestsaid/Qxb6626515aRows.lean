/-
  No cell of these rows narrows 'for every input' (looked for: loops, veiled, ifaces, maps, wideKeys, modest, calm, conditions, laid).
  DERIVED. THE GIVEN ROWS OF THIS SEAT. 2 by the template 'for every input the law returns true; each argument reads behind the call as it read before'; 0 by the template 'total and deterministic' (their statements: Qxb6626515aTotals.lean).
  GIVEN WITH THE SEED: the statements are not yours to turn. If you find one false, say at which input.
  Laid BY PROGRAM, IN A SANDBOX (cutbox-rows.mjs): the forced cells as the released guide's own fill.sh prints them over the translation b35f56405b47d809… (all of the seat's roots in one cut). By AI agents, Wed Nov 11 2026. No macro, syntax, notation, axiom, sorry.
-/
import Derived.Test.Qxb6626515aChecked
import GoSem.Claim
import GoSem.ClaimJoined
import GoSem.ClaimMapViews
import Derived.JoinedTies
import Derived.KernelRfl
namespace Go.Proofs.Qxb6626515a
/- THE CELL 'sum', in the pinned program and in every row, IS THE sha256 OF THE DUMP (.gsa) THAT Qxb6626515aProg.lean LOADS. Nothing in Lean hashes anything: it is a label: what it is worth is what the hold of that sum in a sandbox is worth. -/
noncomputable def Try.pinned : Pinned := { name := "qxb6626515a", sum := "b35f56405b47d809524d8fd07432dc3d8e66b44fd5821238d5dad08992b03226", checked := Try.checked }
namespace Rows
def none {H : Type} : Left H := { results := [], args := [] }

/-- 'zzlaws_internal_heartbeat_b1.FnJudgeConverse': WHATEVER THE INPUT: true; the input reads as it did. -/
def fnJudgeConverseSpec : ChangeSpec := { name := "fnJudgeConverse", fn := fun _ => fun
  | [d1, d2, d3, d4, d5] => { results := [.lit (.bool true)], args := [d1, d2, d3, d4, d5] }
  | _ => none }
def fnJudgeConverseRow : OpenClaim := { program := "qxb6626515a", sum := "b35f56405b47d809524d8fd07432dc3d8e66b44fd5821238d5dad08992b03226", func := "example.com/sentinela/sentinela/zzlaws_internal_heartbeat_b1.FnJudgeConverse", spec := "fnJudgeConverse", apart := false }
def FnJudgeConverseSaid : Prop := fnJudgeConverseRow.holds Try.pinned (OpenSpec.ofChange fnJudgeConverseSpec)

/-- ITS FALSE NEIGHBOUR: 'it returns false'. Refute it at one input. -/
def fnJudgeConverseWrong : ChangeSpec := { name := "fnJudgeConverse", fn := fun _ => fun
  | [d1, d2, d3, d4, d5] => { results := [.lit (.bool false)], args := [d1, d2, d3, d4, d5] }
  | _ => none }
def FnJudgeConverseWrongFalsely : Prop := fnJudgeConverseRow.holds Try.pinned (OpenSpec.ofChange fnJudgeConverseWrong)

/-- 'zzlaws_internal_heartbeat_b1.FnJudgeKeepsGreatest': WHATEVER THE INPUT: true; the input reads as it did. -/
def fnJudgeKeepsGreatestSpec : ChangeSpec := { name := "fnJudgeKeepsGreatest", fn := fun _ => fun
  | [d1, d2, d3, d4, d5] => { results := [.lit (.bool true)], args := [d1, d2, d3, d4, d5] }
  | _ => none }
def fnJudgeKeepsGreatestRow : OpenClaim := { program := "qxb6626515a", sum := "b35f56405b47d809524d8fd07432dc3d8e66b44fd5821238d5dad08992b03226", func := "example.com/sentinela/sentinela/zzlaws_internal_heartbeat_b1.FnJudgeKeepsGreatest", spec := "fnJudgeKeepsGreatest", apart := false }
def FnJudgeKeepsGreatestSaid : Prop := fnJudgeKeepsGreatestRow.holds Try.pinned (OpenSpec.ofChange fnJudgeKeepsGreatestSpec)

/-- ITS FALSE NEIGHBOUR: 'it returns false'. Refute it at one input. -/
def fnJudgeKeepsGreatestWrong : ChangeSpec := { name := "fnJudgeKeepsGreatest", fn := fun _ => fun
  | [d1, d2, d3, d4, d5] => { results := [.lit (.bool false)], args := [d1, d2, d3, d4, d5] }
  | _ => none }
def FnJudgeKeepsGreatestWrongFalsely : Prop := fnJudgeKeepsGreatestRow.holds Try.pinned (OpenSpec.ofChange fnJudgeKeepsGreatestWrong)

end Rows
end Go.Proofs.Qxb6626515a
