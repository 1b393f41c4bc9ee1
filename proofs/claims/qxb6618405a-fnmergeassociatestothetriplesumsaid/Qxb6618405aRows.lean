/-
  No cell of these rows narrows 'for every input' (looked for: loops, veiled, ifaces, maps, wideKeys, modest, calm, conditions, laid).
  DERIVED. THE GIVEN ROWS OF THIS SEAT. 2 by the template 'for every input the law returns true; each argument reads behind the call as it read before'; 0 by the template 'total and deterministic' (their statements: Qxb6618405aTotals.lean).
  GIVEN WITH THE SEED: the statements are not yours to turn. If you find one false, say at which input.
  Laid BY PROGRAM, IN A SANDBOX (cutbox-rows.mjs): the forced cells as the released guide's own fill.sh prints them over the translation 3b44dacb06d345a1… (all of the seat's roots in one cut). By AI agents, Wed Nov 11 2026. No macro, syntax, notation, axiom, sorry.
-/
import Derived.Test.Qxb6618405aChecked
import GoSem.Claim
import GoSem.ClaimJoined
import GoSem.ClaimMapViews
import Derived.JoinedTies
import Derived.KernelRfl
namespace Go.Proofs.Qxb6618405a
/- THE CELL 'sum', in the pinned program and in every row, IS THE sha256 OF THE DUMP (.gsa) THAT Qxb6618405aProg.lean LOADS. Nothing in Lean hashes anything: it is a label: what it is worth is what the hold of that sum in a sandbox is worth. -/
noncomputable def Try.pinned : Pinned := { name := "qxb6618405a", sum := "3b44dacb06d345a17fabd20ca849401c2d216344c77e6c1343a5beddbcca55af", checked := Try.checked }
namespace Rows
def none {H : Type} : Left H := { results := [], args := [] }

/-- 'zzlaws_sim_b1.FnMergeCommutesAndAddsPointwise': WHATEVER THE INPUT: true; the input reads as it did. -/
def fnMergeCommutesAndAddsPointwiseSpec : ChangeSpec := { name := "fnMergeCommutesAndAddsPointwise", fn := fun _ => fun
  | [d1, d2, d3, d4] => { results := [.lit (.bool true)], args := [d1, d2, d3, d4] }
  | _ => none }
def fnMergeCommutesAndAddsPointwiseRow : OpenClaim := { program := "qxb6618405a", sum := "3b44dacb06d345a17fabd20ca849401c2d216344c77e6c1343a5beddbcca55af", func := "example.com/kindred/kindred/zzlaws_sim_b1.FnMergeCommutesAndAddsPointwise", spec := "fnMergeCommutesAndAddsPointwise", apart := false }
def FnMergeCommutesAndAddsPointwiseSaid : Prop := fnMergeCommutesAndAddsPointwiseRow.holds Try.pinned (OpenSpec.ofChange fnMergeCommutesAndAddsPointwiseSpec)

/-- ITS FALSE NEIGHBOUR: 'it returns false'. Refute it at one input. -/
def fnMergeCommutesAndAddsPointwiseWrong : ChangeSpec := { name := "fnMergeCommutesAndAddsPointwise", fn := fun _ => fun
  | [d1, d2, d3, d4] => { results := [.lit (.bool false)], args := [d1, d2, d3, d4] }
  | _ => none }
def FnMergeCommutesAndAddsPointwiseWrongFalsely : Prop := fnMergeCommutesAndAddsPointwiseRow.holds Try.pinned (OpenSpec.ofChange fnMergeCommutesAndAddsPointwiseWrong)

/-- 'zzlaws_sim_b1.FnMergeAssociatesToTheTripleSum': WHATEVER THE INPUT: true; the input reads as it did. -/
def fnMergeAssociatesToTheTripleSumSpec : ChangeSpec := { name := "fnMergeAssociatesToTheTripleSum", fn := fun _ => fun
  | [d1, d2, d3, d4, d5, d6] => { results := [.lit (.bool true)], args := [d1, d2, d3, d4, d5, d6] }
  | _ => none }
def fnMergeAssociatesToTheTripleSumRow : OpenClaim := { program := "qxb6618405a", sum := "3b44dacb06d345a17fabd20ca849401c2d216344c77e6c1343a5beddbcca55af", func := "example.com/kindred/kindred/zzlaws_sim_b1.FnMergeAssociatesToTheTripleSum", spec := "fnMergeAssociatesToTheTripleSum", apart := false }
def FnMergeAssociatesToTheTripleSumSaid : Prop := fnMergeAssociatesToTheTripleSumRow.holds Try.pinned (OpenSpec.ofChange fnMergeAssociatesToTheTripleSumSpec)

/-- ITS FALSE NEIGHBOUR: 'it returns false'. Refute it at one input. -/
def fnMergeAssociatesToTheTripleSumWrong : ChangeSpec := { name := "fnMergeAssociatesToTheTripleSum", fn := fun _ => fun
  | [d1, d2, d3, d4, d5, d6] => { results := [.lit (.bool false)], args := [d1, d2, d3, d4, d5, d6] }
  | _ => none }
def FnMergeAssociatesToTheTripleSumWrongFalsely : Prop := fnMergeAssociatesToTheTripleSumRow.holds Try.pinned (OpenSpec.ofChange fnMergeAssociatesToTheTripleSumWrong)

end Rows
end Go.Proofs.Qxb6618405a
