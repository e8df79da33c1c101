/-
  No cell of these rows narrows 'for every input' (looked for: loops, veiled, ifaces, maps, wideKeys, modest, calm, conditions, laid).
  DERIVED. THE GIVEN ROWS OF THIS SEAT. 5 by the template 'for every input the law returns true; each argument reads behind the call as it read before'; 0 by the template 'total and deterministic' (their statements: Qxb6621626aTotals.lean).
  GIVEN WITH THE SEED: the statements are not yours to turn. If you find one false, say at which input.
  Laid BY PROGRAM, IN A SANDBOX (cutbox-rows.mjs): the forced cells as the released guide's own fill.sh prints them over the translation 2348fd6ed4581275… (all of the seat's roots in one cut). By AI agents, Wed Nov 11 2026. No macro, syntax, notation, axiom, sorry.
-/
import Derived.Test.Qxb6621626aChecked
import GoSem.Claim
import GoSem.ClaimJoined
import GoSem.ClaimMapViews
import Derived.JoinedTies
import Derived.KernelRfl
namespace Go.Proofs.Qxb6621626a
/- THE CELL 'sum', in the pinned program and in every row, IS THE sha256 OF THE DUMP (.gsa) THAT Qxb6621626aProg.lean LOADS. Nothing in Lean hashes anything: it is a label: what it is worth is what the hold of that sum in a sandbox is worth. -/
noncomputable def Try.pinned : Pinned := { name := "qxb6621626a", sum := "2348fd6ed4581275db4499d4585279cd66a2f432f899117191945b3f59deee7b", checked := Try.checked }
namespace Rows
def none {H : Type} : Left H := { results := [], args := [] }

/-- 'zzlaws_root_b1.FnCoverKeepsValueOverHull': WHATEVER THE INPUT: true; the input reads as it did. -/
def fnCoverKeepsValueOverHullSpec : ChangeSpec := { name := "fnCoverKeepsValueOverHull", fn := fun _ => fun
  | [d1, d2, d3, d4] => { results := [.lit (.bool true)], args := [d1, d2, d3, d4] }
  | _ => none }
def fnCoverKeepsValueOverHullRow : OpenClaim := { program := "qxb6621626a", sum := "2348fd6ed4581275db4499d4585279cd66a2f432f899117191945b3f59deee7b", func := "example.com/mediation/mediation/zzlaws_root_b1.FnCoverKeepsValueOverHull", spec := "fnCoverKeepsValueOverHull", apart := false }
def FnCoverKeepsValueOverHullSaid : Prop := fnCoverKeepsValueOverHullRow.holds Try.pinned (OpenSpec.ofChange fnCoverKeepsValueOverHullSpec)

/-- ITS FALSE NEIGHBOUR: 'it returns false'. Refute it at one input. -/
def fnCoverKeepsValueOverHullWrong : ChangeSpec := { name := "fnCoverKeepsValueOverHull", fn := fun _ => fun
  | [d1, d2, d3, d4] => { results := [.lit (.bool false)], args := [d1, d2, d3, d4] }
  | _ => none }
def FnCoverKeepsValueOverHullWrongFalsely : Prop := fnCoverKeepsValueOverHullRow.holds Try.pinned (OpenSpec.ofChange fnCoverKeepsValueOverHullWrong)

/-- 'zzlaws_root_b1.FnCoverTwiceIsCoverOfHull': WHATEVER THE INPUT: true; the input reads as it did. -/
def fnCoverTwiceIsCoverOfHullSpec : ChangeSpec := { name := "fnCoverTwiceIsCoverOfHull", fn := fun _ => fun
  | [d1, d2, d3, d4, d5, d6] => { results := [.lit (.bool true)], args := [d1, d2, d3, d4, d5, d6] }
  | _ => none }
def fnCoverTwiceIsCoverOfHullRow : OpenClaim := { program := "qxb6621626a", sum := "2348fd6ed4581275db4499d4585279cd66a2f432f899117191945b3f59deee7b", func := "example.com/mediation/mediation/zzlaws_root_b1.FnCoverTwiceIsCoverOfHull", spec := "fnCoverTwiceIsCoverOfHull", apart := false }
def FnCoverTwiceIsCoverOfHullSaid : Prop := fnCoverTwiceIsCoverOfHullRow.holds Try.pinned (OpenSpec.ofChange fnCoverTwiceIsCoverOfHullSpec)

/-- ITS FALSE NEIGHBOUR: 'it returns false'. Refute it at one input. -/
def fnCoverTwiceIsCoverOfHullWrong : ChangeSpec := { name := "fnCoverTwiceIsCoverOfHull", fn := fun _ => fun
  | [d1, d2, d3, d4, d5, d6] => { results := [.lit (.bool false)], args := [d1, d2, d3, d4, d5, d6] }
  | _ => none }
def FnCoverTwiceIsCoverOfHullWrongFalsely : Prop := fnCoverTwiceIsCoverOfHullRow.holds Try.pinned (OpenSpec.ofChange fnCoverTwiceIsCoverOfHullWrong)

/-- 'zzlaws_root_b1.FnRefOfSourceIsTargetOfSwapped': WHATEVER THE INPUT: true; the input reads as it did. -/
def fnRefOfSourceIsTargetOfSwappedSpec : ChangeSpec := { name := "fnRefOfSourceIsTargetOfSwapped", fn := fun _ => fun
  | [d1, d2, d3, d4, d5, d6, d7, d8, d9, d10] => { results := [.lit (.bool true)], args := [d1, d2, d3, d4, d5, d6, d7, d8, d9, d10] }
  | _ => none }
def fnRefOfSourceIsTargetOfSwappedRow : OpenClaim := { program := "qxb6621626a", sum := "2348fd6ed4581275db4499d4585279cd66a2f432f899117191945b3f59deee7b", func := "example.com/mediation/mediation/zzlaws_root_b1.FnRefOfSourceIsTargetOfSwapped", spec := "fnRefOfSourceIsTargetOfSwapped", apart := false }
def FnRefOfSourceIsTargetOfSwappedSaid : Prop := fnRefOfSourceIsTargetOfSwappedRow.holds Try.pinned (OpenSpec.ofChange fnRefOfSourceIsTargetOfSwappedSpec)

/-- ITS FALSE NEIGHBOUR: 'it returns false'. Refute it at one input. -/
def fnRefOfSourceIsTargetOfSwappedWrong : ChangeSpec := { name := "fnRefOfSourceIsTargetOfSwapped", fn := fun _ => fun
  | [d1, d2, d3, d4, d5, d6, d7, d8, d9, d10] => { results := [.lit (.bool false)], args := [d1, d2, d3, d4, d5, d6, d7, d8, d9, d10] }
  | _ => none }
def FnRefOfSourceIsTargetOfSwappedWrongFalsely : Prop := fnRefOfSourceIsTargetOfSwappedRow.holds Try.pinned (OpenSpec.ofChange fnRefOfSourceIsTargetOfSwappedWrong)

/-- 'zzlaws_root_b1.FnRefOfReadsOnlyItsPart': WHATEVER THE INPUT: true; the input reads as it did. -/
def fnRefOfReadsOnlyItsPartSpec : ChangeSpec := { name := "fnRefOfReadsOnlyItsPart", fn := fun _ => fun
  | [d1, d2, d3, d4, d5, d6, d7, d8, d9, d10] => { results := [.lit (.bool true)], args := [d1, d2, d3, d4, d5, d6, d7, d8, d9, d10] }
  | _ => none }
def fnRefOfReadsOnlyItsPartRow : OpenClaim := { program := "qxb6621626a", sum := "2348fd6ed4581275db4499d4585279cd66a2f432f899117191945b3f59deee7b", func := "example.com/mediation/mediation/zzlaws_root_b1.FnRefOfReadsOnlyItsPart", spec := "fnRefOfReadsOnlyItsPart", apart := false }
def FnRefOfReadsOnlyItsPartSaid : Prop := fnRefOfReadsOnlyItsPartRow.holds Try.pinned (OpenSpec.ofChange fnRefOfReadsOnlyItsPartSpec)

/-- ITS FALSE NEIGHBOUR: 'it returns false'. Refute it at one input. -/
def fnRefOfReadsOnlyItsPartWrong : ChangeSpec := { name := "fnRefOfReadsOnlyItsPart", fn := fun _ => fun
  | [d1, d2, d3, d4, d5, d6, d7, d8, d9, d10] => { results := [.lit (.bool false)], args := [d1, d2, d3, d4, d5, d6, d7, d8, d9, d10] }
  | _ => none }
def FnRefOfReadsOnlyItsPartWrongFalsely : Prop := fnRefOfReadsOnlyItsPartRow.holds Try.pinned (OpenSpec.ofChange fnRefOfReadsOnlyItsPartWrong)

/-- 'zzlaws_root_b1.FnEventListAddGroupsByKind': WHATEVER THE INPUT: true; the input reads as it did. -/
def fnEventListAddGroupsByKindSpec : ChangeSpec := { name := "fnEventListAddGroupsByKind", fn := fun _ => fun
  | [d1, d2, d3, d4, d5, d6] => { results := [.lit (.bool true)], args := [d1, d2, d3, d4, d5, d6] }
  | _ => none }
def fnEventListAddGroupsByKindRow : OpenClaim := { program := "qxb6621626a", sum := "2348fd6ed4581275db4499d4585279cd66a2f432f899117191945b3f59deee7b", func := "example.com/mediation/mediation/zzlaws_root_b1.FnEventListAddGroupsByKind", spec := "fnEventListAddGroupsByKind", apart := false }
def FnEventListAddGroupsByKindSaid : Prop := fnEventListAddGroupsByKindRow.holds Try.pinned (OpenSpec.ofChange fnEventListAddGroupsByKindSpec)

/-- ITS FALSE NEIGHBOUR: 'it returns false'. Refute it at one input. -/
def fnEventListAddGroupsByKindWrong : ChangeSpec := { name := "fnEventListAddGroupsByKind", fn := fun _ => fun
  | [d1, d2, d3, d4, d5, d6] => { results := [.lit (.bool false)], args := [d1, d2, d3, d4, d5, d6] }
  | _ => none }
def FnEventListAddGroupsByKindWrongFalsely : Prop := fnEventListAddGroupsByKindRow.holds Try.pinned (OpenSpec.ofChange fnEventListAddGroupsByKindWrong)

end Rows
end Go.Proofs.Qxb6621626a
