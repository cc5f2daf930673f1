/-
  DERIVED. GIVEN WITH THE SEED: THE CARDS: each row of Qxb6628823aFmtRows.lean that lists a variable, with what it lists TIED to the program's text (the seventh form; the later family's looks); each row that meets fmt, with fmt's text TOLD by the authors' own Lean function (tested against real Go, not proved from fmt's source: count such statements apart). THE CARD IS WHAT COUNTS. Prove the row's statement (the work); the ties are given (Qxb6628823aFmtTie.lean); close each card by the builder's one call (the guide's Derived/Test/ToyasCard.lean, 'card_holds'). Laid BY PROGRAM, IN A SANDBOX (cutbox-door.mjs). By AI agents, Wed Nov 11 2026. No macro, syntax, notation, axiom, sorry.
-/
import Derived.Test.Qxb6628823aFmtRows
import GoSem.ClaimSeven
namespace Go.Proofs.Qxb6628823aFmt
namespace Rows

/-- THE TOLD CARD OF 'zzlaws_internal_balance_b1.FnSharesEvenSplit'. -/
def fnSharesEvenSplitCard : Claim7 := { stood := { row := fnSharesEvenSplitRow, standIns := [], harness := (true, "9d3b014dda3c7a07cd1c07594f225fa7d78b6bd27702069619b750f2b5bf95df"), looks := false }, told := true, goes := false }
def FnSharesEvenSplitToldSaid : Prop := Claim7.holds Tryf.pinned (.plain (OpenSpec.ofChange fnSharesEvenSplitSpec)) fnSharesEvenSplitCard
/-- ITS FALSE NEIGHBOUR. Refute it at one input. -/
def FnSharesEvenSplitToldWrongFalsely : Prop := Claim7.holds Tryf.pinned (.plain (OpenSpec.ofChange fnSharesEvenSplitWrong)) fnSharesEvenSplitCard

/-- THE TOLD CARD OF 'zzlaws_internal_balance_b1.FnSharesOneMore'. -/
def fnSharesOneMoreCard : Claim7 := { stood := { row := fnSharesOneMoreRow, standIns := [], harness := (true, "9d3b014dda3c7a07cd1c07594f225fa7d78b6bd27702069619b750f2b5bf95df"), looks := false }, told := true, goes := false }
def FnSharesOneMoreToldSaid : Prop := Claim7.holds Tryf.pinned (.plain (OpenSpec.ofChange fnSharesOneMoreSpec)) fnSharesOneMoreCard
/-- ITS FALSE NEIGHBOUR. Refute it at one input. -/
def FnSharesOneMoreToldWrongFalsely : Prop := Claim7.holds Tryf.pinned (.plain (OpenSpec.ofChange fnSharesOneMoreWrong)) fnSharesOneMoreCard
end Rows
end Go.Proofs.Qxb6628823aFmt
