/-
  No cell of these rows narrows 'for every input' (looked for: loops, veiled, ifaces, maps, wideKeys, modest, calm, conditions, laid).
  DERIVED. THE GIVEN ROWS OF THIS SEAT. 1 by the template 'for every input the law returns true; each argument reads behind the call as it read before'; 0 by the template 'total and deterministic' (their statements: Qxb6619588aFmtTotals.lean).
  GIVEN WITH THE SEED: the statements are not yours to turn. If you find one false, say at which input.
  Laid BY PROGRAM, IN A SANDBOX (cutbox-rows.mjs): the forced cells as the released guide's own fill.sh prints them over the translation b3802aeaf579a24e… (all of the seat's roots in one cut). By AI agents, Wed Nov 11 2026. No macro, syntax, notation, axiom, sorry.
-/
import Derived.Test.Qxb6619588aFmtChecked
import GoSem.Claim
import GoSem.ClaimJoined
import GoSem.ClaimMapViews
import Derived.JoinedTies
import Derived.KernelRfl
namespace Go.Proofs.Qxb6619588aFmt
/- THE CELL 'sum', in the pinned program and in every row, IS THE sha256 OF THE DUMP (.gsa) THAT Qxb6619588aFmtProg.lean LOADS. Nothing in Lean hashes anything: it is a label: what it is worth is what the hold of that sum in a sandbox is worth. -/
noncomputable def Tryf.pinned : Pinned := { name := "qxb6619588afmt", sum := "b3802aeaf579a24ec26a8349f0a7dd47ce0a6ebbdbc0be5aea84b4ea2790556d", checked := Tryf.checked }
namespace Rows
def none {H : Type} : Left H := { results := [], args := [] }

/-- 'zzlaws_terms_e1.FnCheckAcceptedExactlyFromOwnDecimalsUp': WHATEVER THE INPUT: true; the input reads as it did. -/
def fnCheckAcceptedExactlyFromOwnDecimalsUpSpec : ChangeSpec := { name := "fnCheckAcceptedExactlyFromOwnDecimalsUp", fn := fun _ => fun
  | [d1, d2, d3] => { results := [.lit (.bool true)], args := [d1, d2, d3] }
  | _ => none }
def fnCheckAcceptedExactlyFromOwnDecimalsUpRow : OpenClaim := { program := "qxb6619588afmt", sum := "b3802aeaf579a24ec26a8349f0a7dd47ce0a6ebbdbc0be5aea84b4ea2790556d", func := "example.com/jinkui/jinkui/zzlaws_terms_e1.FnCheckAcceptedExactlyFromOwnDecimalsUp", spec := "fnCheckAcceptedExactlyFromOwnDecimalsUp", stops := ["fmt.errorf"], inPlace := ["fmt.errorf"], apart := false }
/-- NO THEOREM (fmt's text is open here; it may be false): for the released tool's asking of the row's closed facts alone. THE STATEMENT IS 'FnCheckAcceptedExactlyFromOwnDecimalsUpToldSaid' (Qxb6619588aFmtCards.lean). -/
def FnCheckAcceptedExactlyFromOwnDecimalsUpFormAsk : Prop := fnCheckAcceptedExactlyFromOwnDecimalsUpRow.holds Tryf.pinned (OpenSpec.ofChange fnCheckAcceptedExactlyFromOwnDecimalsUpSpec)

/-- ITS FALSE NEIGHBOUR: 'it returns false'. Refute it at one input. -/
def fnCheckAcceptedExactlyFromOwnDecimalsUpWrong : ChangeSpec := { name := "fnCheckAcceptedExactlyFromOwnDecimalsUp", fn := fun _ => fun
  | [d1, d2, d3] => { results := [.lit (.bool false)], args := [d1, d2, d3] }
  | _ => none }
def FnCheckAcceptedExactlyFromOwnDecimalsUpWrongFormAsk : Prop := fnCheckAcceptedExactlyFromOwnDecimalsUpRow.holds Tryf.pinned (OpenSpec.ofChange fnCheckAcceptedExactlyFromOwnDecimalsUpWrong)

end Rows
end Go.Proofs.Qxb6619588aFmt
