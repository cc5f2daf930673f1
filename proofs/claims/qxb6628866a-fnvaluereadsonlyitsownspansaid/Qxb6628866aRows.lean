/-
  No cell of these rows narrows 'for every input' (looked for: loops, veiled, ifaces, maps, wideKeys, modest, calm, conditions, laid).
  DERIVED. THE GIVEN ROWS OF THIS SEAT. 2 by the template 'for every input the law returns true; each argument reads behind the call as it read before'; 0 by the template 'total and deterministic' (their statements: Qxb6628866aTotals.lean).
  GIVEN WITH THE SEED: the statements are not yours to turn. If you find one false, say at which input.
  Laid BY PROGRAM, IN A SANDBOX (cutbox-rows.mjs): the forced cells as the released guide's own fill.sh prints them over the translation 361e0ab9b8236bb3… (all of the seat's roots in one cut). By AI agents, Wed Nov 11 2026. No macro, syntax, notation, axiom, sorry.
-/
import Derived.Test.Qxb6628866aChecked
import GoSem.Claim
import GoSem.ClaimJoined
import GoSem.ClaimMapViews
import Derived.JoinedTies
import Derived.KernelRfl
namespace Go.Proofs.Qxb6628866a
/- THE CELL 'sum', in the pinned program and in every row, IS THE sha256 OF THE DUMP (.gsa) THAT Qxb6628866aProg.lean LOADS. Nothing in Lean hashes anything: it is a label: what it is worth is what the hold of that sum in a sandbox is worth. -/
noncomputable def Try.pinned : Pinned := { name := "qxb6628866a", sum := "361e0ab9b8236bb3c77d0f3daee90aa65670282ad7d3a76c482dcf04a8199757", checked := Try.checked }
namespace Rows
def none {H : Type} : Left H := { results := [], args := [] }

/-- 'zzlaws_pkg_jsonwalk_b1.FnValueMatchesPushdownModel': WHATEVER THE INPUT: true; the input reads as it did. -/
def fnValueMatchesPushdownModelSpec : ChangeSpec := { name := "fnValueMatchesPushdownModel", fn := fun _ => fun
  | [d1, d2, d3] => { results := [.lit (.bool true)], args := [d1, d2, d3] }
  | _ => none }
def fnValueMatchesPushdownModelRow : OpenClaim := { program := "qxb6628866a", sum := "361e0ab9b8236bb3c77d0f3daee90aa65670282ad7d3a76c482dcf04a8199757", func := "example.com/beacond/beacond/zzlaws_pkg_jsonwalk_b1.FnValueMatchesPushdownModel", spec := "fnValueMatchesPushdownModel", unfollowed := true, recurses := true, apart := false }
def FnValueMatchesPushdownModelSaid : Prop := fnValueMatchesPushdownModelRow.holds Try.pinned (OpenSpec.ofChange fnValueMatchesPushdownModelSpec)

/-- ITS FALSE NEIGHBOUR: 'it returns false'. Refute it at one input. -/
def fnValueMatchesPushdownModelWrong : ChangeSpec := { name := "fnValueMatchesPushdownModel", fn := fun _ => fun
  | [d1, d2, d3] => { results := [.lit (.bool false)], args := [d1, d2, d3] }
  | _ => none }
def FnValueMatchesPushdownModelWrongFalsely : Prop := fnValueMatchesPushdownModelRow.holds Try.pinned (OpenSpec.ofChange fnValueMatchesPushdownModelWrong)

/-- 'zzlaws_pkg_jsonwalk_b1.FnValueReadsOnlyItsOwnSpan': WHATEVER THE INPUT: true; the input reads as it did. -/
def fnValueReadsOnlyItsOwnSpanSpec : ChangeSpec := { name := "fnValueReadsOnlyItsOwnSpan", fn := fun _ => fun
  | [d1, d2, d3, d4] => { results := [.lit (.bool true)], args := [d1, d2, d3, d4] }
  | _ => none }
def fnValueReadsOnlyItsOwnSpanRow : OpenClaim := { program := "qxb6628866a", sum := "361e0ab9b8236bb3c77d0f3daee90aa65670282ad7d3a76c482dcf04a8199757", func := "example.com/beacond/beacond/zzlaws_pkg_jsonwalk_b1.FnValueReadsOnlyItsOwnSpan", spec := "fnValueReadsOnlyItsOwnSpan", unfollowed := true, recurses := true, apart := false }
def FnValueReadsOnlyItsOwnSpanSaid : Prop := fnValueReadsOnlyItsOwnSpanRow.holds Try.pinned (OpenSpec.ofChange fnValueReadsOnlyItsOwnSpanSpec)

/-- ITS FALSE NEIGHBOUR: 'it returns false'. Refute it at one input. -/
def fnValueReadsOnlyItsOwnSpanWrong : ChangeSpec := { name := "fnValueReadsOnlyItsOwnSpan", fn := fun _ => fun
  | [d1, d2, d3, d4] => { results := [.lit (.bool false)], args := [d1, d2, d3, d4] }
  | _ => none }
def FnValueReadsOnlyItsOwnSpanWrongFalsely : Prop := fnValueReadsOnlyItsOwnSpanRow.holds Try.pinned (OpenSpec.ofChange fnValueReadsOnlyItsOwnSpanWrong)

end Rows
end Go.Proofs.Qxb6628866a
