/-
  No cell of these rows narrows 'for every input' (looked for: loops, veiled, ifaces, maps, wideKeys, modest, calm, conditions, laid).
  DERIVED. THE GIVEN ROWS OF THIS SEAT. 2 by the template 'for every input the law returns true; each argument reads behind the call as it read before'; 0 by the template 'total and deterministic' (their statements: Qxb6626486aTotals.lean).
  GIVEN WITH THE SEED: the statements are not yours to turn. If you find one false, say at which input.
  Laid BY PROGRAM, IN A SANDBOX (cutbox-rows.mjs): the forced cells as the released guide's own fill.sh prints them over the translation 57a3096ddaee77ce… (all of the seat's roots in one cut). By AI agents, Wed Nov 11 2026. No macro, syntax, notation, axiom, sorry.
-/
import Derived.Test.Qxb6626486aChecked
import GoSem.Claim
import GoSem.ClaimJoined
import GoSem.ClaimMapViews
import Derived.JoinedTies
import Derived.KernelRfl
namespace Go.Proofs.Qxb6626486a
/- THE CELL 'sum', in the pinned program and in every row, IS THE sha256 OF THE DUMP (.gsa) THAT Qxb6626486aProg.lean LOADS. Nothing in Lean hashes anything: it is a label: what it is worth is what the hold of that sum in a sandbox is worth. -/
noncomputable def Try.pinned : Pinned := { name := "qxb6626486a", sum := "57a3096ddaee77cea877a7197f591fb89311e559131688ca67366a49b4168f96", checked := Try.checked }
namespace Rows
def none {H : Type} : Left H := { results := [], args := [] }

/-- 'zzlaws_internal_schema_b1.FnSubjectTypeStringParsesBack': WHATEVER THE INPUT: true; the input reads as it did. -/
def fnSubjectTypeStringParsesBackSpec : ChangeSpec := { name := "fnSubjectTypeStringParsesBack", fn := fun _ => fun
  | [d1, d2] => { results := [.lit (.bool true)], args := [d1, d2] }
  | _ => none }
def fnSubjectTypeStringParsesBackRow : OpenClaim := { program := "qxb6626486a", sum := "57a3096ddaee77cea877a7197f591fb89311e559131688ca67366a49b4168f96", func := "example.com/userset/userset/zzlaws_internal_schema_b1.FnSubjectTypeStringParsesBack", spec := "fnSubjectTypeStringParsesBack", apart := false }
def FnSubjectTypeStringParsesBackSaid : Prop := fnSubjectTypeStringParsesBackRow.holds Try.pinned (OpenSpec.ofChange fnSubjectTypeStringParsesBackSpec)

/-- ITS FALSE NEIGHBOUR: 'it returns false'. Refute it at one input. -/
def fnSubjectTypeStringParsesBackWrong : ChangeSpec := { name := "fnSubjectTypeStringParsesBack", fn := fun _ => fun
  | [d1, d2] => { results := [.lit (.bool false)], args := [d1, d2] }
  | _ => none }
def FnSubjectTypeStringParsesBackWrongFalsely : Prop := fnSubjectTypeStringParsesBackRow.holds Try.pinned (OpenSpec.ofChange fnSubjectTypeStringParsesBackWrong)

/-- 'zzlaws_internal_schema_b1.FnSubjectTypeStringInjective': WHATEVER THE INPUT: true; the input reads as it did. -/
def fnSubjectTypeStringInjectiveSpec : ChangeSpec := { name := "fnSubjectTypeStringInjective", fn := fun _ => fun
  | [d1, d2, d3, d4] => { results := [.lit (.bool true)], args := [d1, d2, d3, d4] }
  | _ => none }
def fnSubjectTypeStringInjectiveRow : OpenClaim := { program := "qxb6626486a", sum := "57a3096ddaee77cea877a7197f591fb89311e559131688ca67366a49b4168f96", func := "example.com/userset/userset/zzlaws_internal_schema_b1.FnSubjectTypeStringInjective", spec := "fnSubjectTypeStringInjective", apart := false }
def FnSubjectTypeStringInjectiveSaid : Prop := fnSubjectTypeStringInjectiveRow.holds Try.pinned (OpenSpec.ofChange fnSubjectTypeStringInjectiveSpec)

/-- ITS FALSE NEIGHBOUR: 'it returns false'. Refute it at one input. -/
def fnSubjectTypeStringInjectiveWrong : ChangeSpec := { name := "fnSubjectTypeStringInjective", fn := fun _ => fun
  | [d1, d2, d3, d4] => { results := [.lit (.bool false)], args := [d1, d2, d3, d4] }
  | _ => none }
def FnSubjectTypeStringInjectiveWrongFalsely : Prop := fnSubjectTypeStringInjectiveRow.holds Try.pinned (OpenSpec.ofChange fnSubjectTypeStringInjectiveWrong)

end Rows
end Go.Proofs.Qxb6626486a
