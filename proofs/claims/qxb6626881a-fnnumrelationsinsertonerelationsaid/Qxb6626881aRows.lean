/-
  No cell of these rows narrows 'for every input' (looked for: loops, veiled, ifaces, maps, wideKeys, modest, calm, conditions, laid).
  DERIVED. THE GIVEN ROWS OF THIS SEAT. 2 by the template 'for every input the law returns true; each argument reads behind the call as it read before'; 0 by the template 'total and deterministic' (their statements: Qxb6626881aTotals.lean).
  GIVEN WITH THE SEED: the statements are not yours to turn. If you find one false, say at which input.
  Laid BY PROGRAM, IN A SANDBOX (cutbox-rows.mjs): the forced cells as the released guide's own fill.sh prints them over the translation d4da9299486db271… (all of the seat's roots in one cut). By AI agents, Wed Nov 11 2026. No macro, syntax, notation, axiom, sorry.
-/
import Derived.Test.Qxb6626881aChecked
import GoSem.Claim
import GoSem.ClaimJoined
import GoSem.ClaimMapViews
import Derived.JoinedTies
import Derived.KernelRfl
namespace Go.Proofs.Qxb6626881a
/- THE CELL 'sum', in the pinned program and in every row, IS THE sha256 OF THE DUMP (.gsa) THAT Qxb6626881aProg.lean LOADS. Nothing in Lean hashes anything: it is a label: what it is worth is what the hold of that sum in a sandbox is worth. -/
noncomputable def Try.pinned : Pinned := { name := "qxb6626881a", sum := "d4da9299486db271db84c527a56d64ec24f9dac52ad59b7b24863d9f7c64927c", checked := Try.checked }
namespace Rows
def none {H : Type} : Left H := { results := [], args := [] }

/-- 'zzlaws_root_b1.FnNumRelationsSplitAtAnyCut': WHATEVER THE INPUT: true; the input reads as it did. -/
def fnNumRelationsSplitAtAnyCutSpec : ChangeSpec := { name := "fnNumRelationsSplitAtAnyCut", fn := fun _ => fun
  | [d1, d2, d3] => { results := [.lit (.bool true)], args := [d1, d2, d3] }
  | _ => none }
def fnNumRelationsSplitAtAnyCutRow : OpenClaim := { program := "qxb6626881a", sum := "d4da9299486db271db84c527a56d64ec24f9dac52ad59b7b24863d9f7c64927c", func := "example.com/entitlement/entitlement/zzlaws_root_b1.FnNumRelationsSplitAtAnyCut", spec := "fnNumRelationsSplitAtAnyCut", plainKeys := false, apart := false }
def FnNumRelationsSplitAtAnyCutSaid : Prop := fnNumRelationsSplitAtAnyCutRow.holds Try.pinned (OpenSpec.ofChange fnNumRelationsSplitAtAnyCutSpec)

/-- ITS FALSE NEIGHBOUR: 'it returns false'. Refute it at one input. -/
def fnNumRelationsSplitAtAnyCutWrong : ChangeSpec := { name := "fnNumRelationsSplitAtAnyCut", fn := fun _ => fun
  | [d1, d2, d3] => { results := [.lit (.bool false)], args := [d1, d2, d3] }
  | _ => none }
def FnNumRelationsSplitAtAnyCutWrongFalsely : Prop := fnNumRelationsSplitAtAnyCutRow.holds Try.pinned (OpenSpec.ofChange fnNumRelationsSplitAtAnyCutWrong)

/-- 'zzlaws_root_b1.FnNumRelationsInsertOneRelation': WHATEVER THE INPUT: true; the input reads as it did. -/
def fnNumRelationsInsertOneRelationSpec : ChangeSpec := { name := "fnNumRelationsInsertOneRelation", fn := fun _ => fun
  | [d1, d2, d3, d4, d5] => { results := [.lit (.bool true)], args := [d1, d2, d3, d4, d5] }
  | _ => none }
def fnNumRelationsInsertOneRelationRow : OpenClaim := { program := "qxb6626881a", sum := "d4da9299486db271db84c527a56d64ec24f9dac52ad59b7b24863d9f7c64927c", func := "example.com/entitlement/entitlement/zzlaws_root_b1.FnNumRelationsInsertOneRelation", spec := "fnNumRelationsInsertOneRelation", plainKeys := false, apart := false }
def FnNumRelationsInsertOneRelationSaid : Prop := fnNumRelationsInsertOneRelationRow.holds Try.pinned (OpenSpec.ofChange fnNumRelationsInsertOneRelationSpec)

/-- ITS FALSE NEIGHBOUR: 'it returns false'. Refute it at one input. -/
def fnNumRelationsInsertOneRelationWrong : ChangeSpec := { name := "fnNumRelationsInsertOneRelation", fn := fun _ => fun
  | [d1, d2, d3, d4, d5] => { results := [.lit (.bool false)], args := [d1, d2, d3, d4, d5] }
  | _ => none }
def FnNumRelationsInsertOneRelationWrongFalsely : Prop := fnNumRelationsInsertOneRelationRow.holds Try.pinned (OpenSpec.ofChange fnNumRelationsInsertOneRelationWrong)

end Rows
end Go.Proofs.Qxb6626881a
