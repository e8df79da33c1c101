/-
  DERIVED. GIVEN WITH THE SEED: THE CARDS: each row of Qxb6619388aDoorRows.lean that lists a variable, with what it lists TIED to the program's text (the seventh form; the later family's looks); each row that meets fmt, with fmt's text TOLD by the authors' own Lean function (tested against real Go, not proved from fmt's source: count such statements apart). THE CARD IS WHAT COUNTS. Prove the row's statement (the work); the ties are given (Qxb6619388aDoorTie.lean); close each card by the builder's one call (the guide's Derived/Test/ToyasCard.lean, 'card_holds'). Laid BY PROGRAM, IN A SANDBOX (cutbox-door.mjs). By AI agents, Wed Nov 11 2026. No macro, syntax, notation, axiom, sorry.
-/
import Derived.Test.Qxb6619388aDoorRows
import GoSem.ClaimSeven
namespace Go.Proofs.Qxb6619388aDoor
namespace Rows

/-- THE TIED CARD OF 'zzlaws_internal_loadtest_b1.FnRedemptionNumberIsTheNumberItsIdSpells'. -/
def fnRedemptionNumberIsTheNumberItsIdSpellsCard : Claim7 := { stood := { row := fnRedemptionNumberIsTheNumberItsIdSpellsRow, standIns := [], harness := (true, "d6079fe2132d5e6238bf6fde5db40be514e976136a3cd141f6f2b0dd1d547969"), looks := true }, kinds := [], alts := [], laidByText := true, laidKinds := [.data, .data, .data, .sentinel, .sentinel], laidTests := true, laidLooks := .later }
def FnRedemptionNumberIsTheNumberItsIdSpellsCardSaid : Prop := Claim7.holds Tryd.pinned (.plain (OpenSpec.ofChange fnRedemptionNumberIsTheNumberItsIdSpellsSpec)) fnRedemptionNumberIsTheNumberItsIdSpellsCard
end Rows
end Go.Proofs.Qxb6619388aDoor
