/-
  No cell of these rows narrows 'for every input' (looked for: loops, veiled, ifaces, maps, wideKeys, modest, calm, conditions, laid).
  DERIVED. THE GIVEN ROWS OF THIS SEAT. 2 by the template 'for every input the law returns true; each argument reads behind the call as it read before'; 0 by the template 'total and deterministic' (their statements: Qxb6628823aFmtTotals.lean).
  GIVEN WITH THE SEED: the statements are not yours to turn. If you find one false, say at which input.
  Laid BY PROGRAM, IN A SANDBOX (cutbox-rows.mjs): the forced cells as the released guide's own fill.sh prints them over the translation f1498579f6124689… (all of the seat's roots in one cut). By AI agents, Wed Nov 11 2026. No macro, syntax, notation, axiom, sorry.
-/
import Derived.Test.Qxb6628823aFmtChecked
import GoSem.Claim
import GoSem.ClaimJoined
import GoSem.ClaimMapViews
import Derived.JoinedTies
import Derived.KernelRfl
namespace Go.Proofs.Qxb6628823aFmt
/- THE CELL 'sum', in the pinned program and in every row, IS THE sha256 OF THE DUMP (.gsa) THAT Qxb6628823aFmtProg.lean LOADS. Nothing in Lean hashes anything: it is a label: what it is worth is what the hold of that sum in a sandbox is worth. -/
noncomputable def Tryf.pinned : Pinned := { name := "qxb6628823afmt", sum := "f1498579f612468996b58f77b0cf8fc2c719314459cfc2d7d52e3c52487b7c3a", checked := Tryf.checked }
namespace Rows
def none {H : Type} : Left H := { results := [], args := [] }

/-- 'zzlaws_internal_balance_b1.FnSharesEvenSplit': WHATEVER THE INPUT: true; the input reads as it did. -/
def fnSharesEvenSplitSpec : ChangeSpec := { name := "fnSharesEvenSplit", fn := fun _ => fun
  | [d1, d2] => { results := [.lit (.bool true)], args := [d1, d2] }
  | _ => none }
def fnSharesEvenSplitRow : OpenClaim := { program := "qxb6628823afmt", sum := "f1498579f612468996b58f77b0cf8fc2c719314459cfc2d7d52e3c52487b7c3a", func := "example.com/counterpoise/counterpoise/zzlaws_internal_balance_b1.FnSharesEvenSplit", spec := "fnSharesEvenSplit", stops := ["fmt.Sprintf"], inPlace := ["fmt.Sprintf"], apart := false }
/-- NO THEOREM (fmt's text is open here; it may be false): for the released tool's asking of the row's closed facts alone. THE STATEMENT IS 'FnSharesEvenSplitToldSaid' (Qxb6628823aFmtCards.lean). -/
def FnSharesEvenSplitFormAsk : Prop := fnSharesEvenSplitRow.holds Tryf.pinned (OpenSpec.ofChange fnSharesEvenSplitSpec)

/-- ITS FALSE NEIGHBOUR: 'it returns false'. Refute it at one input. -/
def fnSharesEvenSplitWrong : ChangeSpec := { name := "fnSharesEvenSplit", fn := fun _ => fun
  | [d1, d2] => { results := [.lit (.bool false)], args := [d1, d2] }
  | _ => none }
def FnSharesEvenSplitWrongFormAsk : Prop := fnSharesEvenSplitRow.holds Tryf.pinned (OpenSpec.ofChange fnSharesEvenSplitWrong)

/-- 'zzlaws_internal_balance_b1.FnSharesOneMore': WHATEVER THE INPUT: true; the input reads as it did. -/
def fnSharesOneMoreSpec : ChangeSpec := { name := "fnSharesOneMore", fn := fun _ => fun
  | [d1, d2] => { results := [.lit (.bool true)], args := [d1, d2] }
  | _ => none }
def fnSharesOneMoreRow : OpenClaim := { program := "qxb6628823afmt", sum := "f1498579f612468996b58f77b0cf8fc2c719314459cfc2d7d52e3c52487b7c3a", func := "example.com/counterpoise/counterpoise/zzlaws_internal_balance_b1.FnSharesOneMore", spec := "fnSharesOneMore", stops := ["fmt.Sprintf"], inPlace := ["fmt.Sprintf"], apart := false }
/-- NO THEOREM (fmt's text is open here; it may be false): for the released tool's asking of the row's closed facts alone. THE STATEMENT IS 'FnSharesOneMoreToldSaid' (Qxb6628823aFmtCards.lean). -/
def FnSharesOneMoreFormAsk : Prop := fnSharesOneMoreRow.holds Tryf.pinned (OpenSpec.ofChange fnSharesOneMoreSpec)

/-- ITS FALSE NEIGHBOUR: 'it returns false'. Refute it at one input. -/
def fnSharesOneMoreWrong : ChangeSpec := { name := "fnSharesOneMore", fn := fun _ => fun
  | [d1, d2] => { results := [.lit (.bool false)], args := [d1, d2] }
  | _ => none }
def FnSharesOneMoreWrongFormAsk : Prop := fnSharesOneMoreRow.holds Tryf.pinned (OpenSpec.ofChange fnSharesOneMoreWrong)

end Rows
end Go.Proofs.Qxb6628823aFmt
