/-
  NARROWER THAN 'FOR EVERY INPUT', by the rows' own cells (each row's printed sentence says how): FnPeerIDTextRoundTrip: laid · FnUnmarshalTextAcceptsExactly64Hex: laid.
  DERIVED. THE GIVEN ROWS OF THIS SEAT. 2 by the template 'for every input the law returns true; each argument reads behind the call as it read before'; 0 by the template 'total and deterministic' (their statements: Qxb6628775aFmtTotals.lean).
  GIVEN WITH THE SEED: the statements are not yours to turn. If you find one false, say at which input.
  Laid BY PROGRAM, IN A SANDBOX (cutbox-rows.mjs): the forced cells as the released guide's own fill.sh prints them over the translation 2b510dd00636b6fe… (all of the seat's roots in one cut). By AI agents, Wed Nov 11 2026. No macro, syntax, notation, axiom, sorry.
-/
import Derived.Test.Qxb6628775aFmtChecked
import GoSem.Claim
import GoSem.ClaimJoined
import GoSem.ClaimMapViews
import Derived.JoinedTies
import Derived.KernelRfl
namespace Go.Proofs.Qxb6628775aFmt
/- THE CELL 'sum', in the pinned program and in every row, IS THE sha256 OF THE DUMP (.gsa) THAT Qxb6628775aFmtProg.lean LOADS. Nothing in Lean hashes anything: it is a label: what it is worth is what the hold of that sum in a sandbox is worth. -/
noncomputable def Tryf.pinned : Pinned := { name := "qxb6628775afmt", sum := "2b510dd00636b6fe0413c5631dda74bf7e59256e4cee7a21b1b145e8a4f3b089", checked := Tryf.checked }
namespace Rows
def none {H : Type} : Left H := { results := [], args := [] }

/- WHAT THE LISTED PACKAGE-LEVEL VARIABLES READ AS WHEN THE CALL BEGINS. Each datum BY PROGRAM (the guide's laid-datum.mjs) off the statement by which the dump's own 'gosem.cut.vars' lays the variable. In a bare row this is a premise. The card (Qxb6628775aFmtCards.lean) ties it to the program's text. -/
def laid_encoding_hex_ErrLength {H : Type} : DataW H := .iface "*errors.errorString" (.ptr (.agg [.lit (.string [101, 110, 99, 111, 100, 105, 110, 103, 47, 104, 101, 120, 58, 32, 111, 100, 100, 32, 108, 101, 110, 103, 116, 104, 32, 104, 101, 120, 32, 115, 116, 114, 105, 110, 103])]))

/-- 'zzlaws_identity_b1.FnPeerIDTextRoundTrip': WHATEVER THE INPUT: true; the input reads as it did. -/
def fnPeerIDTextRoundTripSpec : ChangeSpec := { name := "fnPeerIDTextRoundTrip", fn := fun _ => fun
  | [d1, d2] => { results := [.lit (.bool true)], args := [d1, d2] }
  | _ => none }
def fnPeerIDTextRoundTripRow : OpenClaim := { program := "qxb6628775afmt", sum := "2b510dd00636b6fe0413c5631dda74bf7e59256e4cee7a21b1b145e8a4f3b089", func := "example.com/peerhold/peerhold/zzlaws_identity_b1.FnPeerIDTextRoundTrip", spec := "fnPeerIDTextRoundTrip", stops := ["fmt.errorf"], inPlace := ["fmt.errorf"], named := ["encoding/hex.ErrLength"], apart := false, laid := [("encoding/hex.ErrLength", laid_encoding_hex_ErrLength)] }
/-- NO THEOREM (fmt's text is open here; it may be false): for the released tool's asking of the row's closed facts alone. THE STATEMENT IS 'FnPeerIDTextRoundTripToldSaid' (Qxb6628775aFmtCards.lean). -/
def FnPeerIDTextRoundTripFormAsk : Prop := fnPeerIDTextRoundTripRow.holds Tryf.pinned (OpenSpec.ofChange fnPeerIDTextRoundTripSpec)

/-- ITS FALSE NEIGHBOUR: 'it returns false'. Refute it at one input. -/
def fnPeerIDTextRoundTripWrong : ChangeSpec := { name := "fnPeerIDTextRoundTrip", fn := fun _ => fun
  | [d1, d2] => { results := [.lit (.bool false)], args := [d1, d2] }
  | _ => none }
def FnPeerIDTextRoundTripWrongFormAsk : Prop := fnPeerIDTextRoundTripRow.holds Tryf.pinned (OpenSpec.ofChange fnPeerIDTextRoundTripWrong)

/-- 'zzlaws_identity_b1.FnUnmarshalTextAcceptsExactly64Hex': WHATEVER THE INPUT: true; the input reads as it did. -/
def fnUnmarshalTextAcceptsExactly64HexSpec : ChangeSpec := { name := "fnUnmarshalTextAcceptsExactly64Hex", fn := fun _ => fun
  | [d1, d2] => { results := [.lit (.bool true)], args := [d1, d2] }
  | _ => none }
def fnUnmarshalTextAcceptsExactly64HexRow : OpenClaim := { program := "qxb6628775afmt", sum := "2b510dd00636b6fe0413c5631dda74bf7e59256e4cee7a21b1b145e8a4f3b089", func := "example.com/peerhold/peerhold/zzlaws_identity_b1.FnUnmarshalTextAcceptsExactly64Hex", spec := "fnUnmarshalTextAcceptsExactly64Hex", stops := ["fmt.errorf"], inPlace := ["fmt.errorf"], named := ["encoding/hex.ErrLength"], apart := false, laid := [("encoding/hex.ErrLength", laid_encoding_hex_ErrLength)] }
/-- NO THEOREM (fmt's text is open here; it may be false): for the released tool's asking of the row's closed facts alone. THE STATEMENT IS 'FnUnmarshalTextAcceptsExactly64HexToldSaid' (Qxb6628775aFmtCards.lean). -/
def FnUnmarshalTextAcceptsExactly64HexFormAsk : Prop := fnUnmarshalTextAcceptsExactly64HexRow.holds Tryf.pinned (OpenSpec.ofChange fnUnmarshalTextAcceptsExactly64HexSpec)

/-- ITS FALSE NEIGHBOUR: 'it returns false'. Refute it at one input. -/
def fnUnmarshalTextAcceptsExactly64HexWrong : ChangeSpec := { name := "fnUnmarshalTextAcceptsExactly64Hex", fn := fun _ => fun
  | [d1, d2] => { results := [.lit (.bool false)], args := [d1, d2] }
  | _ => none }
def FnUnmarshalTextAcceptsExactly64HexWrongFormAsk : Prop := fnUnmarshalTextAcceptsExactly64HexRow.holds Tryf.pinned (OpenSpec.ofChange fnUnmarshalTextAcceptsExactly64HexWrong)

end Rows
end Go.Proofs.Qxb6628775aFmt
