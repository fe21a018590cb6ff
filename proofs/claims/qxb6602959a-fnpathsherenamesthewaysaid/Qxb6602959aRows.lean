/-
  No cell of these rows narrows 'for every input' (looked for: loops, veiled, ifaces, maps, wideKeys, modest, calm, conditions, laid).
  DERIVED. THE GIVEN ROWS OF THIS SEAT. 1 by the template 'for every input the law returns true; each argument reads behind the call as it read before'; 0 by the template 'total and deterministic' (their statements: Qxb6602959aTotals.lean).
  GIVEN WITH THE SEED: the statements are not yours to turn. If you find one false, say at which input.
  Laid BY PROGRAM, IN A SANDBOX (cutbox-rows.mjs): the forced cells as the released guide's own fill.sh prints them over the translation 00f2a0c9def1c97d… (all of the seat's roots in one cut). By AI agents, Wed Nov 11 2026. No macro, syntax, notation, axiom, sorry.
-/
import Derived.Test.Qxb6602959aChecked
import GoSem.Claim
import GoSem.ClaimJoined
import GoSem.ClaimMapViews
import Derived.JoinedTies
import Derived.KernelRfl
namespace Go.Proofs.Qxb6602959a
/- THE CELL 'sum', in the pinned program and in every row, IS THE sha256 OF THE DUMP (.gsa) THAT Qxb6602959aProg.lean LOADS. Nothing in Lean hashes anything: it is a label: what it is worth is what the hold of that sum in a sandbox is worth. -/
noncomputable def Try.pinned : Pinned := { name := "qxb6602959a", sum := "00f2a0c9def1c97d3e86eb19d0a01615ac4d3eff9d59da32e34eaae6988e8e9c", checked := Try.checked }
namespace Rows
def none {H : Type} : Left H := { results := [], args := [] }

/-- 'zzlaws_internal_openapi_b1.FnPathsHereNamesTheWay': WHATEVER THE INPUT: true; the input reads as it did. -/
def fnPathsHereNamesTheWaySpec : ChangeSpec := { name := "fnPathsHereNamesTheWay", fn := fun _ => fun
  | [d1, d2] => { results := [.lit (.bool true)], args := [d1, d2] }
  | _ => none }
def fnPathsHereNamesTheWayRow : OpenClaim := { program := "qxb6602959a", sum := "00f2a0c9def1c97d3e86eb19d0a01615ac4d3eff9d59da32e34eaae6988e8e9c", func := "example.com/ownergraph/ownergraph/zzlaws_internal_openapi_b1.FnPathsHereNamesTheWay", spec := "fnPathsHereNamesTheWay", plainKeys := false, apart := false }
def FnPathsHereNamesTheWaySaid : Prop := fnPathsHereNamesTheWayRow.holds Try.pinned (OpenSpec.ofChange fnPathsHereNamesTheWaySpec)

/-- ITS FALSE NEIGHBOUR: 'it returns false'. Refute it at one input. -/
def fnPathsHereNamesTheWayWrong : ChangeSpec := { name := "fnPathsHereNamesTheWay", fn := fun _ => fun
  | [d1, d2] => { results := [.lit (.bool false)], args := [d1, d2] }
  | _ => none }
def FnPathsHereNamesTheWayWrongFalsely : Prop := fnPathsHereNamesTheWayRow.holds Try.pinned (OpenSpec.ofChange fnPathsHereNamesTheWayWrong)

end Rows
end Go.Proofs.Qxb6602959a
