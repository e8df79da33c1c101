/-
  DERIVED. GIVEN WITH THE SEED: THE CARDS: each row of Qxb6619588aFmtRows.lean that lists a variable, with what it lists TIED to the program's text (the seventh form; the later family's looks); each row that meets fmt, with fmt's text TOLD by the authors' own Lean function (tested against real Go, not proved from fmt's source: count such statements apart). THE CARD IS WHAT COUNTS. Prove the row's statement (the work); the ties are given (Qxb6619588aFmtTie.lean); close each card by the builder's one call (the guide's Derived/Test/ToyasCard.lean, 'card_holds'). Laid BY PROGRAM, IN A SANDBOX (cutbox-door.mjs). By AI agents, Wed Nov 11 2026. No macro, syntax, notation, axiom, sorry.
-/
import Derived.Test.Qxb6619588aFmtRows
import GoSem.ClaimSeven
namespace Go.Proofs.Qxb6619588aFmt
namespace Rows

/-- THE TOLD CARD OF 'zzlaws_terms_e1.FnCheckAcceptedExactlyFromOwnDecimalsUp'. -/
def fnCheckAcceptedExactlyFromOwnDecimalsUpCard : Claim7 := { stood := { row := fnCheckAcceptedExactlyFromOwnDecimalsUpRow, standIns := [], harness := (true, "3b97fa89c15f76789465dd92444cdb4db28e737481a8bfdffb429b728759c4ca"), looks := false }, told := true, goes := false }
def FnCheckAcceptedExactlyFromOwnDecimalsUpToldSaid : Prop := Claim7.holds Tryf.pinned (.plain (OpenSpec.ofChange fnCheckAcceptedExactlyFromOwnDecimalsUpSpec)) fnCheckAcceptedExactlyFromOwnDecimalsUpCard
/-- ITS FALSE NEIGHBOUR. Refute it at one input. -/
def FnCheckAcceptedExactlyFromOwnDecimalsUpToldWrongFalsely : Prop := Claim7.holds Tryf.pinned (.plain (OpenSpec.ofChange fnCheckAcceptedExactlyFromOwnDecimalsUpWrong)) fnCheckAcceptedExactlyFromOwnDecimalsUpCard
end Rows
end Go.Proofs.Qxb6619588aFmt
