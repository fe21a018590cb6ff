/-
  No cell of these rows narrows 'for every input' (looked for: loops, veiled, ifaces, maps, wideKeys, modest, calm, conditions, laid).
  DERIVED. THE GIVEN ROWS OF THIS SEAT. 5 by the template 'for every input the law returns true; each argument reads behind the call as it read before'; 0 by the template 'total and deterministic' (their statements: Qxb6600897aTotals.lean).
  GIVEN WITH THE SEED: the statements are not yours to turn. If you find one false, say at which input.
  Laid BY PROGRAM, IN A SANDBOX (cutbox-rows.mjs): the forced cells as the released guide's own fill.sh prints them over the translation ea53b854fe898703… (all of the seat's roots in one cut). By AI agents, Wed Nov 11 2026. No macro, syntax, notation, axiom, sorry.
-/
import Derived.Test.Qxb6600897aChecked
import GoSem.Claim
import GoSem.ClaimJoined
import GoSem.ClaimMapViews
import Derived.JoinedTies
import Derived.KernelRfl
namespace Go.Proofs.Qxb6600897a
/- THE CELL 'sum', in the pinned program and in every row, IS THE sha256 OF THE DUMP (.gsa) THAT Qxb6600897aProg.lean LOADS. Nothing in Lean hashes anything: it is a label: what it is worth is what the hold of that sum in a sandbox is worth. -/
noncomputable def Try.pinned : Pinned := { name := "qxb6600897a", sum := "ea53b854fe8987035056350814eccc941ceaa11d4c0767eef2dc390605b309e8", checked := Try.checked }
namespace Rows
def none {H : Type} : Left H := { results := [], args := [] }

/-- 'zzlaws_model_b1.FnCarryingAdditive': WHATEVER THE INPUT: true; the input reads as it did. -/
def fnCarryingAdditiveSpec : ChangeSpec := { name := "fnCarryingAdditive", fn := fun _ => fun
  | [d1, d2, d3, d4, d5, d6, d7, d8, d9] => { results := [.lit (.bool true)], args := [d1, d2, d3, d4, d5, d6, d7, d8, d9] }
  | _ => none }
def fnCarryingAdditiveRow : OpenClaim := { program := "qxb6600897a", sum := "ea53b854fe8987035056350814eccc941ceaa11d4c0767eef2dc390605b309e8", func := "example.com/headroom/headroom/zzlaws_model_b1.FnCarryingAdditive", spec := "fnCarryingAdditive", plainKeys := false, apart := false }
def FnCarryingAdditiveSaid : Prop := fnCarryingAdditiveRow.holds Try.pinned (OpenSpec.ofChange fnCarryingAdditiveSpec)

/-- ITS FALSE NEIGHBOUR: 'it returns false'. Refute it at one input. -/
def fnCarryingAdditiveWrong : ChangeSpec := { name := "fnCarryingAdditive", fn := fun _ => fun
  | [d1, d2, d3, d4, d5, d6, d7, d8, d9] => { results := [.lit (.bool false)], args := [d1, d2, d3, d4, d5, d6, d7, d8, d9] }
  | _ => none }
def FnCarryingAdditiveWrongFalsely : Prop := fnCarryingAdditiveRow.holds Try.pinned (OpenSpec.ofChange fnCarryingAdditiveWrong)

/-- 'zzlaws_model_b1.FnWantExact': WHATEVER THE INPUT: true; the input reads as it did. -/
def fnWantExactSpec : ChangeSpec := { name := "fnWantExact", fn := fun _ => fun
  | [d1, d2, d3, d4, d5, d6, d7, d8] => { results := [.lit (.bool true)], args := [d1, d2, d3, d4, d5, d6, d7, d8] }
  | _ => none }
def fnWantExactRow : OpenClaim := { program := "qxb6600897a", sum := "ea53b854fe8987035056350814eccc941ceaa11d4c0767eef2dc390605b309e8", func := "example.com/headroom/headroom/zzlaws_model_b1.FnWantExact", spec := "fnWantExact", plainKeys := false, apart := false }
def FnWantExactSaid : Prop := fnWantExactRow.holds Try.pinned (OpenSpec.ofChange fnWantExactSpec)

/-- ITS FALSE NEIGHBOUR: 'it returns false'. Refute it at one input. -/
def fnWantExactWrong : ChangeSpec := { name := "fnWantExact", fn := fun _ => fun
  | [d1, d2, d3, d4, d5, d6, d7, d8] => { results := [.lit (.bool false)], args := [d1, d2, d3, d4, d5, d6, d7, d8] }
  | _ => none }
def FnWantExactWrongFalsely : Prop := fnWantExactRow.holds Try.pinned (OpenSpec.ofChange fnWantExactWrong)

/-- 'zzlaws_model_b1.FnWantTwiceIsOnce': WHATEVER THE INPUT: true; the input reads as it did. -/
def fnWantTwiceIsOnceSpec : ChangeSpec := { name := "fnWantTwiceIsOnce", fn := fun _ => fun
  | [d1, d2, d3] => { results := [.lit (.bool true)], args := [d1, d2, d3] }
  | _ => none }
def fnWantTwiceIsOnceRow : OpenClaim := { program := "qxb6600897a", sum := "ea53b854fe8987035056350814eccc941ceaa11d4c0767eef2dc390605b309e8", func := "example.com/headroom/headroom/zzlaws_model_b1.FnWantTwiceIsOnce", spec := "fnWantTwiceIsOnce", plainKeys := false, apart := false }
def FnWantTwiceIsOnceSaid : Prop := fnWantTwiceIsOnceRow.holds Try.pinned (OpenSpec.ofChange fnWantTwiceIsOnceSpec)

/-- ITS FALSE NEIGHBOUR: 'it returns false'. Refute it at one input. -/
def fnWantTwiceIsOnceWrong : ChangeSpec := { name := "fnWantTwiceIsOnce", fn := fun _ => fun
  | [d1, d2, d3] => { results := [.lit (.bool false)], args := [d1, d2, d3] }
  | _ => none }
def FnWantTwiceIsOnceWrongFalsely : Prop := fnWantTwiceIsOnceRow.holds Try.pinned (OpenSpec.ofChange fnWantTwiceIsOnceWrong)

/-- 'zzlaws_model_b1.FnLotsExact': WHATEVER THE INPUT: true; the input reads as it did. -/
def fnLotsExactSpec : ChangeSpec := { name := "fnLotsExact", fn := fun _ => fun
  | [d1, d2] => { results := [.lit (.bool true)], args := [d1, d2] }
  | _ => none }
def fnLotsExactRow : OpenClaim := { program := "qxb6600897a", sum := "ea53b854fe8987035056350814eccc941ceaa11d4c0767eef2dc390605b309e8", func := "example.com/headroom/headroom/zzlaws_model_b1.FnLotsExact", spec := "fnLotsExact", plainKeys := false, apart := false }
def FnLotsExactSaid : Prop := fnLotsExactRow.holds Try.pinned (OpenSpec.ofChange fnLotsExactSpec)

/-- ITS FALSE NEIGHBOUR: 'it returns false'. Refute it at one input. -/
def fnLotsExactWrong : ChangeSpec := { name := "fnLotsExact", fn := fun _ => fun
  | [d1, d2] => { results := [.lit (.bool false)], args := [d1, d2] }
  | _ => none }
def FnLotsExactWrongFalsely : Prop := fnLotsExactRow.holds Try.pinned (OpenSpec.ofChange fnLotsExactWrong)

/-- 'zzlaws_model_b1.FnLotsRepeatAddsNothing': WHATEVER THE INPUT: true; the input reads as it did. -/
def fnLotsRepeatAddsNothingSpec : ChangeSpec := { name := "fnLotsRepeatAddsNothing", fn := fun _ => fun
  | [d1, d2, d3, d4] => { results := [.lit (.bool true)], args := [d1, d2, d3, d4] }
  | _ => none }
def fnLotsRepeatAddsNothingRow : OpenClaim := { program := "qxb6600897a", sum := "ea53b854fe8987035056350814eccc941ceaa11d4c0767eef2dc390605b309e8", func := "example.com/headroom/headroom/zzlaws_model_b1.FnLotsRepeatAddsNothing", spec := "fnLotsRepeatAddsNothing", plainKeys := false, apart := false }
def FnLotsRepeatAddsNothingSaid : Prop := fnLotsRepeatAddsNothingRow.holds Try.pinned (OpenSpec.ofChange fnLotsRepeatAddsNothingSpec)

/-- ITS FALSE NEIGHBOUR: 'it returns false'. Refute it at one input. -/
def fnLotsRepeatAddsNothingWrong : ChangeSpec := { name := "fnLotsRepeatAddsNothing", fn := fun _ => fun
  | [d1, d2, d3, d4] => { results := [.lit (.bool false)], args := [d1, d2, d3, d4] }
  | _ => none }
def FnLotsRepeatAddsNothingWrongFalsely : Prop := fnLotsRepeatAddsNothingRow.holds Try.pinned (OpenSpec.ofChange fnLotsRepeatAddsNothingWrong)

end Rows
end Go.Proofs.Qxb6600897a
