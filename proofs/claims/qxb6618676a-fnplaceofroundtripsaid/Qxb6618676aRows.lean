/-
  No cell of these rows narrows 'for every input' (looked for: loops, veiled, ifaces, maps, wideKeys, modest, calm, conditions, laid).
  DERIVED. THE GIVEN ROWS OF THIS SEAT. 2 by the template 'for every input the law returns true; each argument reads behind the call as it read before'; 0 by the template 'total and deterministic' (their statements: Qxb6618676aTotals.lean).
  GIVEN WITH THE SEED: the statements are not yours to turn. If you find one false, say at which input.
  Laid BY PROGRAM, IN A SANDBOX (cutbox-rows.mjs): the forced cells as the released guide's own fill.sh prints them over the translation d848036f04691c56… (all of the seat's roots in one cut). By AI agents, Wed Nov 11 2026. No macro, syntax, notation, axiom, sorry.
-/
import Derived.Test.Qxb6618676aChecked
import GoSem.Claim
import GoSem.ClaimJoined
import GoSem.ClaimMapViews
import Derived.JoinedTies
import Derived.KernelRfl
namespace Go.Proofs.Qxb6618676a
/- THE CELL 'sum', in the pinned program and in every row, IS THE sha256 OF THE DUMP (.gsa) THAT Qxb6618676aProg.lean LOADS. Nothing in Lean hashes anything: it is a label: what it is worth is what the hold of that sum in a sandbox is worth. -/
noncomputable def Try.pinned : Pinned := { name := "qxb6618676a", sum := "d848036f04691c569afa5c4ded034a13ef8b660f7ba9edcc7f55935efe9da33d", checked := Try.checked }
namespace Rows
def none {H : Type} : Left H := { results := [], args := [] }

/-- 'zzlaws_flow_b1.FnPlaceOfRoundTrip': WHATEVER THE INPUT: true; the input reads as it did. -/
def fnPlaceOfRoundTripSpec : ChangeSpec := { name := "fnPlaceOfRoundTrip", fn := fun _ => fun
  | [d1, d2] => { results := [.lit (.bool true)], args := [d1, d2] }
  | _ => none }
def fnPlaceOfRoundTripRow : OpenClaim := { program := "qxb6618676a", sum := "d848036f04691c569afa5c4ded034a13ef8b660f7ba9edcc7f55935efe9da33d", func := "example.com/flowcourier/flowcourier/zzlaws_flow_b1.FnPlaceOfRoundTrip", spec := "fnPlaceOfRoundTrip", apart := false }
def FnPlaceOfRoundTripSaid : Prop := fnPlaceOfRoundTripRow.holds Try.pinned (OpenSpec.ofChange fnPlaceOfRoundTripSpec)

/-- ITS FALSE NEIGHBOUR: 'it returns false'. Refute it at one input. -/
def fnPlaceOfRoundTripWrong : ChangeSpec := { name := "fnPlaceOfRoundTrip", fn := fun _ => fun
  | [d1, d2] => { results := [.lit (.bool false)], args := [d1, d2] }
  | _ => none }
def FnPlaceOfRoundTripWrongFalsely : Prop := fnPlaceOfRoundTripRow.holds Try.pinned (OpenSpec.ofChange fnPlaceOfRoundTripWrong)

/-- 'zzlaws_flow_b1.FnPlaceOfDistinctTakenOrdered': WHATEVER THE INPUT: true; the input reads as it did. -/
def fnPlaceOfDistinctTakenOrderedSpec : ChangeSpec := { name := "fnPlaceOfDistinctTakenOrdered", fn := fun _ => fun
  | [d1, d2, d3, d4] => { results := [.lit (.bool true)], args := [d1, d2, d3, d4] }
  | _ => none }
def fnPlaceOfDistinctTakenOrderedRow : OpenClaim := { program := "qxb6618676a", sum := "d848036f04691c569afa5c4ded034a13ef8b660f7ba9edcc7f55935efe9da33d", func := "example.com/flowcourier/flowcourier/zzlaws_flow_b1.FnPlaceOfDistinctTakenOrdered", spec := "fnPlaceOfDistinctTakenOrdered", apart := false }
def FnPlaceOfDistinctTakenOrderedSaid : Prop := fnPlaceOfDistinctTakenOrderedRow.holds Try.pinned (OpenSpec.ofChange fnPlaceOfDistinctTakenOrderedSpec)

/-- ITS FALSE NEIGHBOUR: 'it returns false'. Refute it at one input. -/
def fnPlaceOfDistinctTakenOrderedWrong : ChangeSpec := { name := "fnPlaceOfDistinctTakenOrdered", fn := fun _ => fun
  | [d1, d2, d3, d4] => { results := [.lit (.bool false)], args := [d1, d2, d3, d4] }
  | _ => none }
def FnPlaceOfDistinctTakenOrderedWrongFalsely : Prop := fnPlaceOfDistinctTakenOrderedRow.holds Try.pinned (OpenSpec.ofChange fnPlaceOfDistinctTakenOrderedWrong)

end Rows
end Go.Proofs.Qxb6618676a
