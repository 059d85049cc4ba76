/-
  No cell of these rows narrows 'for every input' (looked for: loops, veiled, ifaces, maps, wideKeys, modest, calm, conditions, laid).
  DERIVED. THE GIVEN ROWS OF THIS SEAT. 1 by the template 'for every input the law returns true; each argument reads behind the call as it read before'; 0 by the template 'total and deterministic' (their statements: Qxb6616412aTotals.lean).
  GIVEN WITH THE SEED: the statements are not yours to turn. If you find one false, say at which input.
  Laid BY PROGRAM, IN A SANDBOX (cutbox-rows.mjs): the forced cells as the released guide's own fill.sh prints them over the translation e3b64cc531c138eb… (all of the seat's roots in one cut). By AI agents, Wed Nov 11 2026. No macro, syntax, notation, axiom, sorry.
-/
import Derived.Test.Qxb6616412aChecked
import GoSem.Claim
import GoSem.ClaimJoined
import GoSem.ClaimMapViews
import Derived.JoinedTies
import Derived.KernelRfl
namespace Go.Proofs.Qxb6616412a
/- THE CELL 'sum', in the pinned program and in every row, IS THE sha256 OF THE DUMP (.gsa) THAT Qxb6616412aProg.lean LOADS. Nothing in Lean hashes anything: it is a label: what it is worth is what the hold of that sum in a sandbox is worth. -/
noncomputable def Try.pinned : Pinned := { name := "qxb6616412a", sum := "e3b64cc531c138eb1006fd6b22959858b9c81b023ff144ee15c0bddfd34d4c04", checked := Try.checked }
namespace Rows
def none {H : Type} : Left H := { results := [], args := [] }

/-- 'zzlaws_root_b1.FnGabrielNeighboursAppendLeavesGraph': WHATEVER THE INPUT: true; the input reads as it did. -/
def fnGabrielNeighboursAppendLeavesGraphSpec : ChangeSpec := { name := "fnGabrielNeighboursAppendLeavesGraph", fn := fun _ => fun
  | [d1, d2, d3] => { results := [.lit (.bool true)], args := [d1, d2, d3] }
  | _ => none }
def fnGabrielNeighboursAppendLeavesGraphRow : OpenClaim := { program := "qxb6616412a", sum := "e3b64cc531c138eb1006fd6b22959858b9c81b023ff144ee15c0bddfd34d4c04", func := "example.com/quorumfield/quorumfield/zzlaws_root_b1.FnGabrielNeighboursAppendLeavesGraph", spec := "fnGabrielNeighboursAppendLeavesGraph", apart := false }
def FnGabrielNeighboursAppendLeavesGraphSaid : Prop := fnGabrielNeighboursAppendLeavesGraphRow.holds Try.pinned (OpenSpec.ofChange fnGabrielNeighboursAppendLeavesGraphSpec)

/-- ITS FALSE NEIGHBOUR: 'it returns false'. Refute it at one input. -/
def fnGabrielNeighboursAppendLeavesGraphWrong : ChangeSpec := { name := "fnGabrielNeighboursAppendLeavesGraph", fn := fun _ => fun
  | [d1, d2, d3] => { results := [.lit (.bool false)], args := [d1, d2, d3] }
  | _ => none }
def FnGabrielNeighboursAppendLeavesGraphWrongFalsely : Prop := fnGabrielNeighboursAppendLeavesGraphRow.holds Try.pinned (OpenSpec.ofChange fnGabrielNeighboursAppendLeavesGraphWrong)

end Rows
end Go.Proofs.Qxb6616412a
