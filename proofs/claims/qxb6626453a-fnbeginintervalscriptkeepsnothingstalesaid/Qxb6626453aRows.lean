/-
  No cell of these rows narrows 'for every input' (looked for: loops, veiled, ifaces, maps, wideKeys, modest, calm, conditions, laid).
  DERIVED. THE GIVEN ROWS OF THIS SEAT. 2 by the template 'for every input the law returns true; each argument reads behind the call as it read before'; 0 by the template 'total and deterministic' (their statements: Qxb6626453aTotals.lean).
  GIVEN WITH THE SEED: the statements are not yours to turn. If you find one false, say at which input.
  Laid BY PROGRAM, IN A SANDBOX (cutbox-rows.mjs): the forced cells as the released guide's own fill.sh prints them over the translation 4f06e7e4faa86bd2… (all of the seat's roots in one cut). By AI agents, Wed Nov 11 2026. No macro, syntax, notation, axiom, sorry.
-/
import Derived.Test.Qxb6626453aChecked
import GoSem.Claim
import GoSem.ClaimJoined
import GoSem.ClaimMapViews
import Derived.JoinedTies
import Derived.KernelRfl
namespace Go.Proofs.Qxb6626453a
/- THE CELL 'sum', in the pinned program and in every row, IS THE sha256 OF THE DUMP (.gsa) THAT Qxb6626453aProg.lean LOADS. Nothing in Lean hashes anything: it is a label: what it is worth is what the hold of that sum in a sandbox is worth. -/
noncomputable def Try.pinned : Pinned := { name := "qxb6626453a", sum := "4f06e7e4faa86bd2804f926a1c06cda7e515965c0bead5db8560042cad5196d0", checked := Try.checked }
namespace Rows
def none {H : Type} : Left H := { results := [], args := [] }

/-- 'zzlaws_root_b1.FnBeginIntervalTwoBeginningsActAsTheGreater': WHATEVER THE INPUT: true; the input reads as it did. -/
def fnBeginIntervalTwoBeginningsActAsTheGreaterSpec : ChangeSpec := { name := "fnBeginIntervalTwoBeginningsActAsTheGreater", fn := fun _ => fun
  | [d1, d2, d3] => { results := [.lit (.bool true)], args := [d1, d2, d3] }
  | _ => none }
def fnBeginIntervalTwoBeginningsActAsTheGreaterRow : OpenClaim := { program := "qxb6626453a", sum := "4f06e7e4faa86bd2804f926a1c06cda7e515965c0bead5db8560042cad5196d0", func := "example.com/epochwise/epochwise/zzlaws_root_b1.FnBeginIntervalTwoBeginningsActAsTheGreater", spec := "fnBeginIntervalTwoBeginningsActAsTheGreater", apart := false }
def FnBeginIntervalTwoBeginningsActAsTheGreaterSaid : Prop := fnBeginIntervalTwoBeginningsActAsTheGreaterRow.holds Try.pinned (OpenSpec.ofChange fnBeginIntervalTwoBeginningsActAsTheGreaterSpec)

/-- ITS FALSE NEIGHBOUR: 'it returns false'. Refute it at one input. -/
def fnBeginIntervalTwoBeginningsActAsTheGreaterWrong : ChangeSpec := { name := "fnBeginIntervalTwoBeginningsActAsTheGreater", fn := fun _ => fun
  | [d1, d2, d3] => { results := [.lit (.bool false)], args := [d1, d2, d3] }
  | _ => none }
def FnBeginIntervalTwoBeginningsActAsTheGreaterWrongFalsely : Prop := fnBeginIntervalTwoBeginningsActAsTheGreaterRow.holds Try.pinned (OpenSpec.ofChange fnBeginIntervalTwoBeginningsActAsTheGreaterWrong)

/-- 'zzlaws_root_b1.FnBeginIntervalScriptKeepsNothingStale': WHATEVER THE INPUT: true; the input reads as it did. -/
def fnBeginIntervalScriptKeepsNothingStaleSpec : ChangeSpec := { name := "fnBeginIntervalScriptKeepsNothingStale", fn := fun _ => fun
  | [d1, d2] => { results := [.lit (.bool true)], args := [d1, d2] }
  | _ => none }
def fnBeginIntervalScriptKeepsNothingStaleRow : OpenClaim := { program := "qxb6626453a", sum := "4f06e7e4faa86bd2804f926a1c06cda7e515965c0bead5db8560042cad5196d0", func := "example.com/epochwise/epochwise/zzlaws_root_b1.FnBeginIntervalScriptKeepsNothingStale", spec := "fnBeginIntervalScriptKeepsNothingStale", apart := false }
def FnBeginIntervalScriptKeepsNothingStaleSaid : Prop := fnBeginIntervalScriptKeepsNothingStaleRow.holds Try.pinned (OpenSpec.ofChange fnBeginIntervalScriptKeepsNothingStaleSpec)

/-- ITS FALSE NEIGHBOUR: 'it returns false'. Refute it at one input. -/
def fnBeginIntervalScriptKeepsNothingStaleWrong : ChangeSpec := { name := "fnBeginIntervalScriptKeepsNothingStale", fn := fun _ => fun
  | [d1, d2] => { results := [.lit (.bool false)], args := [d1, d2] }
  | _ => none }
def FnBeginIntervalScriptKeepsNothingStaleWrongFalsely : Prop := fnBeginIntervalScriptKeepsNothingStaleRow.holds Try.pinned (OpenSpec.ofChange fnBeginIntervalScriptKeepsNothingStaleWrong)

end Rows
end Go.Proofs.Qxb6626453a
