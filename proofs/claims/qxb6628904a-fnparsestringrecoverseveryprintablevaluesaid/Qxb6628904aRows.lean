/-
  No cell of these rows narrows 'for every input' (looked for: loops, veiled, ifaces, maps, wideKeys, modest, calm, conditions, laid).
  DERIVED. THE GIVEN ROWS OF THIS SEAT. 2 by the template 'for every input the law returns true; each argument reads behind the call as it read before'; 0 by the template 'total and deterministic' (their statements: Qxb6628904aTotals.lean).
  GIVEN WITH THE SEED: the statements are not yours to turn. If you find one false, say at which input.
  Laid BY PROGRAM, IN A SANDBOX (cutbox-rows.mjs): the forced cells as the released guide's own fill.sh prints them over the translation 72074864005c7e2c… (all of the seat's roots in one cut). By AI agents, Wed Nov 11 2026. No macro, syntax, notation, axiom, sorry.
-/
import Derived.Test.Qxb6628904aChecked
import GoSem.Claim
import GoSem.ClaimJoined
import GoSem.ClaimMapViews
import Derived.JoinedTies
import Derived.KernelRfl
namespace Go.Proofs.Qxb6628904a
/- THE CELL 'sum', in the pinned program and in every row, IS THE sha256 OF THE DUMP (.gsa) THAT Qxb6628904aProg.lean LOADS. Nothing in Lean hashes anything: it is a label: what it is worth is what the hold of that sum in a sandbox is worth. -/
noncomputable def Try.pinned : Pinned := { name := "qxb6628904a", sum := "72074864005c7e2c312c9edce0061f683b88201ce43792a4a0e3744a144c89fb", checked := Try.checked }
namespace Rows
def none {H : Type} : Left H := { results := [], args := [] }

/-- 'zzlaws_idempotencykey_b1.FnParseStringMatchesFieldStringGrammar': WHATEVER THE INPUT: true; the input reads as it did. -/
def fnParseStringMatchesFieldStringGrammarSpec : ChangeSpec := { name := "fnParseStringMatchesFieldStringGrammar", fn := fun _ => fun
  | [d] => { results := [.lit (.bool true)], args := [d] }
  | _ => none }
def fnParseStringMatchesFieldStringGrammarRow : OpenClaim := { program := "qxb6628904a", sum := "72074864005c7e2c312c9edce0061f683b88201ce43792a4a0e3744a144c89fb", func := "example.com/onceward/onceward/zzlaws_idempotencykey_b1.FnParseStringMatchesFieldStringGrammar", spec := "fnParseStringMatchesFieldStringGrammar", inPlace := ["internal/abi.NoEscape"], apart := false }
def FnParseStringMatchesFieldStringGrammarSaid : Prop := fnParseStringMatchesFieldStringGrammarRow.holds Try.pinned (OpenSpec.ofChange fnParseStringMatchesFieldStringGrammarSpec)

/-- ITS FALSE NEIGHBOUR: 'it returns false'. Refute it at one input. -/
def fnParseStringMatchesFieldStringGrammarWrong : ChangeSpec := { name := "fnParseStringMatchesFieldStringGrammar", fn := fun _ => fun
  | [d] => { results := [.lit (.bool false)], args := [d] }
  | _ => none }
def FnParseStringMatchesFieldStringGrammarWrongFalsely : Prop := fnParseStringMatchesFieldStringGrammarRow.holds Try.pinned (OpenSpec.ofChange fnParseStringMatchesFieldStringGrammarWrong)

/-- 'zzlaws_idempotencykey_b1.FnParseStringRecoversEveryPrintableValue': WHATEVER THE INPUT: true; the input reads as it did. -/
def fnParseStringRecoversEveryPrintableValueSpec : ChangeSpec := { name := "fnParseStringRecoversEveryPrintableValue", fn := fun _ => fun
  | [d1, d2, d3] => { results := [.lit (.bool true)], args := [d1, d2, d3] }
  | _ => none }
def fnParseStringRecoversEveryPrintableValueRow : OpenClaim := { program := "qxb6628904a", sum := "72074864005c7e2c312c9edce0061f683b88201ce43792a4a0e3744a144c89fb", func := "example.com/onceward/onceward/zzlaws_idempotencykey_b1.FnParseStringRecoversEveryPrintableValue", spec := "fnParseStringRecoversEveryPrintableValue", inPlace := ["internal/abi.NoEscape"], apart := false }
def FnParseStringRecoversEveryPrintableValueSaid : Prop := fnParseStringRecoversEveryPrintableValueRow.holds Try.pinned (OpenSpec.ofChange fnParseStringRecoversEveryPrintableValueSpec)

/-- ITS FALSE NEIGHBOUR: 'it returns false'. Refute it at one input. -/
def fnParseStringRecoversEveryPrintableValueWrong : ChangeSpec := { name := "fnParseStringRecoversEveryPrintableValue", fn := fun _ => fun
  | [d1, d2, d3] => { results := [.lit (.bool false)], args := [d1, d2, d3] }
  | _ => none }
def FnParseStringRecoversEveryPrintableValueWrongFalsely : Prop := fnParseStringRecoversEveryPrintableValueRow.holds Try.pinned (OpenSpec.ofChange fnParseStringRecoversEveryPrintableValueWrong)

end Rows
end Go.Proofs.Qxb6628904a
