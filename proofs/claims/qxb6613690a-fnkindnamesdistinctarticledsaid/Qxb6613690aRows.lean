/-
  No cell of these rows narrows 'for every input' (looked for: loops, veiled, ifaces, maps, wideKeys, modest, calm, conditions, laid).
  DERIVED. THE GIVEN ROWS OF THIS SEAT. 1 by the template 'for every input the law returns true; each argument reads behind the call as it read before'; 0 by the template 'total and deterministic' (their statements: Qxb6613690aTotals.lean).
  GIVEN WITH THE SEED: the statements are not yours to turn. If you find one false, say at which input.
  Laid BY PROGRAM, IN A SANDBOX (cutbox-rows.mjs): the forced cells as the released guide's own fill.sh prints them over the translation 85cb6f584076b2c8… (all of the seat's roots in one cut). By AI agents, Wed Nov 11 2026. No macro, syntax, notation, axiom, sorry.
-/
import Derived.Test.Qxb6613690aChecked
import GoSem.Claim
import GoSem.ClaimJoined
import GoSem.ClaimMapViews
import Derived.JoinedTies
import Derived.KernelRfl
namespace Go.Proofs.Qxb6613690a
/- THE CELL 'sum', in the pinned program and in every row, IS THE sha256 OF THE DUMP (.gsa) THAT Qxb6613690aProg.lean LOADS. Nothing in Lean hashes anything: it is a label: what it is worth is what the hold of that sum in a sandbox is worth. -/
noncomputable def Try.pinned : Pinned := { name := "qxb6613690a", sum := "85cb6f584076b2c8e43d4ab6ff0c5d34157cab50a9c5ab06b1f8e286ac458c7d", checked := Try.checked }
namespace Rows
def none {H : Type} : Left H := { results := [], args := [] }

/-- 'zzlaws_internal_router_b1.FnKindNamesDistinctArticled': WHATEVER THE INPUT: true; the input reads as it did. -/
def fnKindNamesDistinctArticledSpec : ChangeSpec := { name := "fnKindNamesDistinctArticled", fn := fun _ => fun
  | [d1, d2] => { results := [.lit (.bool true)], args := [d1, d2] }
  | _ => none }
def fnKindNamesDistinctArticledRow : OpenClaim := { program := "qxb6613690a", sum := "85cb6f584076b2c8e43d4ab6ff0c5d34157cab50a9c5ab06b1f8e286ac458c7d", func := "example.com/nodepulse/nodepulse/zzlaws_internal_router_b1.FnKindNamesDistinctArticled", spec := "fnKindNamesDistinctArticled", apart := false }
def FnKindNamesDistinctArticledSaid : Prop := fnKindNamesDistinctArticledRow.holds Try.pinned (OpenSpec.ofChange fnKindNamesDistinctArticledSpec)

/-- ITS FALSE NEIGHBOUR: 'it returns false'. Refute it at one input. -/
def fnKindNamesDistinctArticledWrong : ChangeSpec := { name := "fnKindNamesDistinctArticled", fn := fun _ => fun
  | [d1, d2] => { results := [.lit (.bool false)], args := [d1, d2] }
  | _ => none }
def FnKindNamesDistinctArticledWrongFalsely : Prop := fnKindNamesDistinctArticledRow.holds Try.pinned (OpenSpec.ofChange fnKindNamesDistinctArticledWrong)

end Rows
end Go.Proofs.Qxb6613690a
