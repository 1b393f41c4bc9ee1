/-
  No cell of these rows narrows 'for every input' (looked for: loops, veiled, ifaces, maps, wideKeys, modest, calm, conditions, laid).
  DERIVED. THE GIVEN ROWS OF THIS SEAT. 1 by the template 'for every input the law returns true; each argument reads behind the call as it read before'; 0 by the template 'total and deterministic' (their statements: Qxb6618427aTotals.lean).
  GIVEN WITH THE SEED: the statements are not yours to turn. If you find one false, say at which input.
  Laid BY PROGRAM, IN A SANDBOX (cutbox-rows.mjs): the forced cells as the released guide's own fill.sh prints them over the translation 57d880e4c96d2d3a… (all of the seat's roots in one cut). By AI agents, Wed Nov 11 2026. No macro, syntax, notation, axiom, sorry.
-/
import Derived.Test.Qxb6618427aChecked
import GoSem.Claim
import GoSem.ClaimJoined
import GoSem.ClaimMapViews
import Derived.JoinedTies
import Derived.KernelRfl
namespace Go.Proofs.Qxb6618427a
/- THE CELL 'sum', in the pinned program and in every row, IS THE sha256 OF THE DUMP (.gsa) THAT Qxb6618427aProg.lean LOADS. Nothing in Lean hashes anything: it is a label: what it is worth is what the hold of that sum in a sandbox is worth. -/
noncomputable def Try.pinned : Pinned := { name := "qxb6618427a", sum := "57d880e4c96d2d3a246136874bdd9e8c2748c3743802c2e8bc246352ad69f8db", checked := Try.checked }
namespace Rows
def none {H : Type} : Left H := { results := [], args := [] }

/-- 'zzlaws_root_b1.FnCreateTableCutAnywhere': WHATEVER THE INPUT: true; the input reads as it did. -/
def fnCreateTableCutAnywhereSpec : ChangeSpec := { name := "fnCreateTableCutAnywhere", fn := fun _ => fun
  | [d1, d2, d3, d4] => { results := [.lit (.bool true)], args := [d1, d2, d3, d4] }
  | _ => none }
def fnCreateTableCutAnywhereRow : OpenClaim := { program := "qxb6618427a", sum := "57d880e4c96d2d3a246136874bdd9e8c2748c3743802c2e8bc246352ad69f8db", func := "example.com/firm-hooks/firm-hooks/zzlaws_root_b1.FnCreateTableCutAnywhere", spec := "fnCreateTableCutAnywhere", apart := false }
def FnCreateTableCutAnywhereSaid : Prop := fnCreateTableCutAnywhereRow.holds Try.pinned (OpenSpec.ofChange fnCreateTableCutAnywhereSpec)

/-- ITS FALSE NEIGHBOUR: 'it returns false'. Refute it at one input. -/
def fnCreateTableCutAnywhereWrong : ChangeSpec := { name := "fnCreateTableCutAnywhere", fn := fun _ => fun
  | [d1, d2, d3, d4] => { results := [.lit (.bool false)], args := [d1, d2, d3, d4] }
  | _ => none }
def FnCreateTableCutAnywhereWrongFalsely : Prop := fnCreateTableCutAnywhereRow.holds Try.pinned (OpenSpec.ofChange fnCreateTableCutAnywhereWrong)

end Rows
end Go.Proofs.Qxb6618427a
