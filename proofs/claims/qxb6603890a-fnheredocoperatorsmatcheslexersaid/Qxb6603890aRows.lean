/-
  No cell of these rows narrows 'for every input' (looked for: loops, veiled, ifaces, maps, wideKeys, modest, calm, conditions, laid).
  DERIVED. THE GIVEN ROWS OF THIS SEAT. 1 by the template 'for every input the law returns true; each argument reads behind the call as it read before'; 0 by the template 'total and deterministic' (their statements: Qxb6603890aTotals.lean).
  GIVEN WITH THE SEED: the statements are not yours to turn. If you find one false, say at which input.
  Laid BY PROGRAM, IN A SANDBOX (cutbox-rows.mjs): the forced cells as the released guide's own fill.sh prints them over the translation 091c7d90823ffdfd… (all of the seat's roots in one cut). By AI agents, Wed Nov 11 2026. No macro, syntax, notation, axiom, sorry.
-/
import Derived.Test.Qxb6603890aChecked
import GoSem.Claim
import GoSem.ClaimJoined
import GoSem.ClaimMapViews
import Derived.JoinedTies
import Derived.KernelRfl
namespace Go.Proofs.Qxb6603890a
/- THE CELL 'sum', in the pinned program and in every row, IS THE sha256 OF THE DUMP (.gsa) THAT Qxb6603890aProg.lean LOADS. Nothing in Lean hashes anything: it is a label: what it is worth is what the hold of that sum in a sandbox is worth. -/
noncomputable def Try.pinned : Pinned := { name := "qxb6603890a", sum := "091c7d90823ffdfd1d1e949255e55c73802bcb2ab79c533b29bfaa6dc48e0a50", checked := Try.checked }
namespace Rows
def none {H : Type} : Left H := { results := [], args := [] }

/-- 'zzlaws_pkg_engine_b1.FnHeredocOperatorsMatchesLexer': WHATEVER THE INPUT: true; the input reads as it did. -/
def fnHeredocOperatorsMatchesLexerSpec : ChangeSpec := { name := "fnHeredocOperatorsMatchesLexer", fn := fun _ => fun
  | [d1, d2] => { results := [.lit (.bool true)], args := [d1, d2] }
  | _ => none }
def fnHeredocOperatorsMatchesLexerRow : OpenClaim := { program := "qxb6603890a", sum := "091c7d90823ffdfd1d1e949255e55c73802bcb2ab79c533b29bfaa6dc48e0a50", func := "example.com/portcullis/portcullis/zzlaws_pkg_engine_b1.FnHeredocOperatorsMatchesLexer", spec := "fnHeredocOperatorsMatchesLexer", apart := false }
def FnHeredocOperatorsMatchesLexerSaid : Prop := fnHeredocOperatorsMatchesLexerRow.holds Try.pinned (OpenSpec.ofChange fnHeredocOperatorsMatchesLexerSpec)

/-- ITS FALSE NEIGHBOUR: 'it returns false'. Refute it at one input. -/
def fnHeredocOperatorsMatchesLexerWrong : ChangeSpec := { name := "fnHeredocOperatorsMatchesLexer", fn := fun _ => fun
  | [d1, d2] => { results := [.lit (.bool false)], args := [d1, d2] }
  | _ => none }
def FnHeredocOperatorsMatchesLexerWrongFalsely : Prop := fnHeredocOperatorsMatchesLexerRow.holds Try.pinned (OpenSpec.ofChange fnHeredocOperatorsMatchesLexerWrong)

end Rows
end Go.Proofs.Qxb6603890a
