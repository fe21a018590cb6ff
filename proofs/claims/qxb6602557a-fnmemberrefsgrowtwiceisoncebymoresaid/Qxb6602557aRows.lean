/-
  No cell of these rows narrows 'for every input' (looked for: loops, veiled, ifaces, maps, wideKeys, modest, calm, conditions, laid).
  DERIVED. THE GIVEN ROWS OF THIS SEAT. 6 by the template 'for every input the law returns true; each argument reads behind the call as it read before'; 0 by the template 'total and deterministic' (their statements: Qxb6602557aTotals.lean).
  GIVEN WITH THE SEED: the statements are not yours to turn. If you find one false, say at which input.
  Laid BY PROGRAM, IN A SANDBOX (cutbox-rows.mjs): the forced cells as the released guide's own fill.sh prints them over the translation 7624b2ec7a3242a0… (all of the seat's roots in one cut). By AI agents, Wed Nov 11 2026. No macro, syntax, notation, axiom, sorry.
-/
import Derived.Test.Qxb6602557aChecked
import GoSem.Claim
import GoSem.ClaimJoined
import GoSem.ClaimMapViews
import Derived.JoinedTies
import Derived.KernelRfl
namespace Go.Proofs.Qxb6602557a
/- THE CELL 'sum', in the pinned program and in every row, IS THE sha256 OF THE DUMP (.gsa) THAT Qxb6602557aProg.lean LOADS. Nothing in Lean hashes anything: it is a label: what it is worth is what the hold of that sum in a sandbox is worth. -/
noncomputable def Try.pinned : Pinned := { name := "qxb6602557a", sum := "7624b2ec7a3242a09cdb23a6df17f96db80b78a621b2364a51121777225dfe7c", checked := Try.checked }
namespace Rows
def none {H : Type} : Left H := { results := [], args := [] }

/-- 'zzlaws_internal_awset_b1.FnClockReplicaSpec': WHATEVER THE INPUT: true; the input reads as it did. -/
def fnClockReplicaSpecSpec : ChangeSpec := { name := "fnClockReplicaSpec", fn := fun _ => fun
  | [d1, d2, d3, d4] => { results := [.lit (.bool true)], args := [d1, d2, d3, d4] }
  | _ => none }
def fnClockReplicaSpecRow : OpenClaim := { program := "qxb6602557a", sum := "7624b2ec7a3242a09cdb23a6df17f96db80b78a621b2364a51121777225dfe7c", func := "example.com/winnowset/winnowset/zzlaws_internal_awset_b1.FnClockReplicaSpec", spec := "fnClockReplicaSpec", apart := false }
def FnClockReplicaSpecSaid : Prop := fnClockReplicaSpecRow.holds Try.pinned (OpenSpec.ofChange fnClockReplicaSpecSpec)

/-- ITS FALSE NEIGHBOUR: 'it returns false'. Refute it at one input. -/
def fnClockReplicaSpecWrong : ChangeSpec := { name := "fnClockReplicaSpec", fn := fun _ => fun
  | [d1, d2, d3, d4] => { results := [.lit (.bool false)], args := [d1, d2, d3, d4] }
  | _ => none }
def FnClockReplicaSpecWrongFalsely : Prop := fnClockReplicaSpecRow.holds Try.pinned (OpenSpec.ofChange fnClockReplicaSpecWrong)

/-- 'zzlaws_internal_awset_b1.FnClockReplicaScriptNumbersFirstSeen': WHATEVER THE INPUT: true; the input reads as it did. -/
def fnClockReplicaScriptNumbersFirstSeenSpec : ChangeSpec := { name := "fnClockReplicaScriptNumbersFirstSeen", fn := fun _ => fun
  | [d] => { results := [.lit (.bool true)], args := [d] }
  | _ => none }
def fnClockReplicaScriptNumbersFirstSeenRow : OpenClaim := { program := "qxb6602557a", sum := "7624b2ec7a3242a09cdb23a6df17f96db80b78a621b2364a51121777225dfe7c", func := "example.com/winnowset/winnowset/zzlaws_internal_awset_b1.FnClockReplicaScriptNumbersFirstSeen", spec := "fnClockReplicaScriptNumbersFirstSeen", apart := false }
def FnClockReplicaScriptNumbersFirstSeenSaid : Prop := fnClockReplicaScriptNumbersFirstSeenRow.holds Try.pinned (OpenSpec.ofChange fnClockReplicaScriptNumbersFirstSeenSpec)

/-- ITS FALSE NEIGHBOUR: 'it returns false'. Refute it at one input. -/
def fnClockReplicaScriptNumbersFirstSeenWrong : ChangeSpec := { name := "fnClockReplicaScriptNumbersFirstSeen", fn := fun _ => fun
  | [d] => { results := [.lit (.bool false)], args := [d] }
  | _ => none }
def FnClockReplicaScriptNumbersFirstSeenWrongFalsely : Prop := fnClockReplicaScriptNumbersFirstSeenRow.holds Try.pinned (OpenSpec.ofChange fnClockReplicaScriptNumbersFirstSeenWrong)

/-- 'zzlaws_internal_awset_b1.FnMemberRefsGrowSpec': WHATEVER THE INPUT: true; the input reads as it did. -/
def fnMemberRefsGrowSpecSpec : ChangeSpec := { name := "fnMemberRefsGrowSpec", fn := fun _ => fun
  | [d1, d2, d3, d4, d5, d6, d7] => { results := [.lit (.bool true)], args := [d1, d2, d3, d4, d5, d6, d7] }
  | _ => none }
def fnMemberRefsGrowSpecRow : OpenClaim := { program := "qxb6602557a", sum := "7624b2ec7a3242a09cdb23a6df17f96db80b78a621b2364a51121777225dfe7c", func := "example.com/winnowset/winnowset/zzlaws_internal_awset_b1.FnMemberRefsGrowSpec", spec := "fnMemberRefsGrowSpec", apart := false }
def FnMemberRefsGrowSpecSaid : Prop := fnMemberRefsGrowSpecRow.holds Try.pinned (OpenSpec.ofChange fnMemberRefsGrowSpecSpec)

/-- ITS FALSE NEIGHBOUR: 'it returns false'. Refute it at one input. -/
def fnMemberRefsGrowSpecWrong : ChangeSpec := { name := "fnMemberRefsGrowSpec", fn := fun _ => fun
  | [d1, d2, d3, d4, d5, d6, d7] => { results := [.lit (.bool false)], args := [d1, d2, d3, d4, d5, d6, d7] }
  | _ => none }
def FnMemberRefsGrowSpecWrongFalsely : Prop := fnMemberRefsGrowSpecRow.holds Try.pinned (OpenSpec.ofChange fnMemberRefsGrowSpecWrong)

/-- 'zzlaws_internal_awset_b1.FnMemberRefsGrowTwiceIsOnceByMore': WHATEVER THE INPUT: true; the input reads as it did. -/
def fnMemberRefsGrowTwiceIsOnceByMoreSpec : ChangeSpec := { name := "fnMemberRefsGrowTwiceIsOnceByMore", fn := fun _ => fun
  | [d1, d2, d3, d4, d5, d6, d7, d8] => { results := [.lit (.bool true)], args := [d1, d2, d3, d4, d5, d6, d7, d8] }
  | _ => none }
def fnMemberRefsGrowTwiceIsOnceByMoreRow : OpenClaim := { program := "qxb6602557a", sum := "7624b2ec7a3242a09cdb23a6df17f96db80b78a621b2364a51121777225dfe7c", func := "example.com/winnowset/winnowset/zzlaws_internal_awset_b1.FnMemberRefsGrowTwiceIsOnceByMore", spec := "fnMemberRefsGrowTwiceIsOnceByMore", apart := false }
def FnMemberRefsGrowTwiceIsOnceByMoreSaid : Prop := fnMemberRefsGrowTwiceIsOnceByMoreRow.holds Try.pinned (OpenSpec.ofChange fnMemberRefsGrowTwiceIsOnceByMoreSpec)

/-- ITS FALSE NEIGHBOUR: 'it returns false'. Refute it at one input. -/
def fnMemberRefsGrowTwiceIsOnceByMoreWrong : ChangeSpec := { name := "fnMemberRefsGrowTwiceIsOnceByMore", fn := fun _ => fun
  | [d1, d2, d3, d4, d5, d6, d7, d8] => { results := [.lit (.bool false)], args := [d1, d2, d3, d4, d5, d6, d7, d8] }
  | _ => none }
def FnMemberRefsGrowTwiceIsOnceByMoreWrongFalsely : Prop := fnMemberRefsGrowTwiceIsOnceByMoreRow.holds Try.pinned (OpenSpec.ofChange fnMemberRefsGrowTwiceIsOnceByMoreWrong)

/-- 'zzlaws_internal_awset_b1.FnTableAllocPlacesRecord': WHATEVER THE INPUT: true; the input reads as it did. -/
def fnTableAllocPlacesRecordSpec : ChangeSpec := { name := "fnTableAllocPlacesRecord", fn := fun _ => fun
  | [d1, d2, d3, d4, d5, d6, d7] => { results := [.lit (.bool true)], args := [d1, d2, d3, d4, d5, d6, d7] }
  | _ => none }
def fnTableAllocPlacesRecordRow : OpenClaim := { program := "qxb6602557a", sum := "7624b2ec7a3242a09cdb23a6df17f96db80b78a621b2364a51121777225dfe7c", func := "example.com/winnowset/winnowset/zzlaws_internal_awset_b1.FnTableAllocPlacesRecord", spec := "fnTableAllocPlacesRecord", apart := false }
def FnTableAllocPlacesRecordSaid : Prop := fnTableAllocPlacesRecordRow.holds Try.pinned (OpenSpec.ofChange fnTableAllocPlacesRecordSpec)

/-- ITS FALSE NEIGHBOUR: 'it returns false'. Refute it at one input. -/
def fnTableAllocPlacesRecordWrong : ChangeSpec := { name := "fnTableAllocPlacesRecord", fn := fun _ => fun
  | [d1, d2, d3, d4, d5, d6, d7] => { results := [.lit (.bool false)], args := [d1, d2, d3, d4, d5, d6, d7] }
  | _ => none }
def FnTableAllocPlacesRecordWrongFalsely : Prop := fnTableAllocPlacesRecordRow.holds Try.pinned (OpenSpec.ofChange fnTableAllocPlacesRecordWrong)

/-- 'zzlaws_internal_awset_b1.FnTableAllocScriptKeepsRecords': WHATEVER THE INPUT: true; the input reads as it did. -/
def fnTableAllocScriptKeepsRecordsSpec : ChangeSpec := { name := "fnTableAllocScriptKeepsRecords", fn := fun _ => fun
  | [d1, d2] => { results := [.lit (.bool true)], args := [d1, d2] }
  | _ => none }
def fnTableAllocScriptKeepsRecordsRow : OpenClaim := { program := "qxb6602557a", sum := "7624b2ec7a3242a09cdb23a6df17f96db80b78a621b2364a51121777225dfe7c", func := "example.com/winnowset/winnowset/zzlaws_internal_awset_b1.FnTableAllocScriptKeepsRecords", spec := "fnTableAllocScriptKeepsRecords", apart := false }
def FnTableAllocScriptKeepsRecordsSaid : Prop := fnTableAllocScriptKeepsRecordsRow.holds Try.pinned (OpenSpec.ofChange fnTableAllocScriptKeepsRecordsSpec)

/-- ITS FALSE NEIGHBOUR: 'it returns false'. Refute it at one input. -/
def fnTableAllocScriptKeepsRecordsWrong : ChangeSpec := { name := "fnTableAllocScriptKeepsRecords", fn := fun _ => fun
  | [d1, d2] => { results := [.lit (.bool false)], args := [d1, d2] }
  | _ => none }
def FnTableAllocScriptKeepsRecordsWrongFalsely : Prop := fnTableAllocScriptKeepsRecordsRow.holds Try.pinned (OpenSpec.ofChange fnTableAllocScriptKeepsRecordsWrong)

end Rows
end Go.Proofs.Qxb6602557a
