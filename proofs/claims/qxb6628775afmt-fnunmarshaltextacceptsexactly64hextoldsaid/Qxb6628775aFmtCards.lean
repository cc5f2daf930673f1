/-
  DERIVED. GIVEN WITH THE SEED: THE CARDS: each row of Qxb6628775aFmtRows.lean that lists a variable, with what it lists TIED to the program's text (the seventh form; the later family's looks); each row that meets fmt, with fmt's text TOLD by the authors' own Lean function (tested against real Go, not proved from fmt's source: count such statements apart). THE CARD IS WHAT COUNTS. Prove the row's statement (the work); the ties are given (Qxb6628775aFmtTie.lean); close each card by the builder's one call (the guide's Derived/Test/ToyasCard.lean, 'card_holds'). Laid BY PROGRAM, IN A SANDBOX (cutbox-door.mjs). By AI agents, Wed Nov 11 2026. No macro, syntax, notation, axiom, sorry.
-/
import Derived.Test.Qxb6628775aFmtRows
import GoSem.ClaimSeven
namespace Go.Proofs.Qxb6628775aFmt
namespace Rows

/-- THE TOLD AND TIED CARD OF 'zzlaws_identity_b1.FnPeerIDTextRoundTrip'. -/
def fnPeerIDTextRoundTripCard : Claim7 := { stood := { row := fnPeerIDTextRoundTripRow, standIns := [], harness := (true, "e0660a7895c8270fce68ea52c240adb42b443e527a290ccbe8a16806addd8ca3"), looks := false }, told := true, laidByText := true, laidKinds := [.sentinel], laidTests := true, laidLooks := .later, goes := false }
def FnPeerIDTextRoundTripToldSaid : Prop := Claim7.holds Tryf.pinned (.plain (OpenSpec.ofChange fnPeerIDTextRoundTripSpec)) fnPeerIDTextRoundTripCard
/-- ITS FALSE NEIGHBOUR. Refute it at one input. -/
def FnPeerIDTextRoundTripToldWrongFalsely : Prop := Claim7.holds Tryf.pinned (.plain (OpenSpec.ofChange fnPeerIDTextRoundTripWrong)) fnPeerIDTextRoundTripCard

/-- THE TOLD AND TIED CARD OF 'zzlaws_identity_b1.FnUnmarshalTextAcceptsExactly64Hex'. -/
def fnUnmarshalTextAcceptsExactly64HexCard : Claim7 := { stood := { row := fnUnmarshalTextAcceptsExactly64HexRow, standIns := [], harness := (true, "e0660a7895c8270fce68ea52c240adb42b443e527a290ccbe8a16806addd8ca3"), looks := false }, told := true, laidByText := true, laidKinds := [.sentinel], laidTests := true, laidLooks := .later, goes := false }
def FnUnmarshalTextAcceptsExactly64HexToldSaid : Prop := Claim7.holds Tryf.pinned (.plain (OpenSpec.ofChange fnUnmarshalTextAcceptsExactly64HexSpec)) fnUnmarshalTextAcceptsExactly64HexCard
/-- ITS FALSE NEIGHBOUR. Refute it at one input. -/
def FnUnmarshalTextAcceptsExactly64HexToldWrongFalsely : Prop := Claim7.holds Tryf.pinned (.plain (OpenSpec.ofChange fnUnmarshalTextAcceptsExactly64HexWrong)) fnUnmarshalTextAcceptsExactly64HexCard
end Rows
end Go.Proofs.Qxb6628775aFmt
