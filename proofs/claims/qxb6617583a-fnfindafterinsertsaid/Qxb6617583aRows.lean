/-
  No cell of these rows narrows 'for every input' (looked for: loops, veiled, ifaces, maps, wideKeys, modest, calm, conditions, laid).
  DERIVED. THE GIVEN ROWS OF THIS SEAT. 2 by the template 'for every input the law returns true; each argument reads behind the call as it read before'; 0 by the template 'total and deterministic' (their statements: Qxb6617583aTotals.lean).
  GIVEN WITH THE SEED: the statements are not yours to turn. If you find one false, say at which input.
  Laid BY PROGRAM, IN A SANDBOX (cutbox-rows.mjs): the forced cells as the released guide's own fill.sh prints them over the translation 631ba10225643312… (all of the seat's roots in one cut). By AI agents, Wed Nov 11 2026. No macro, syntax, notation, axiom, sorry.
-/
import Derived.Test.Qxb6617583aChecked
import GoSem.Claim
import GoSem.ClaimJoined
import GoSem.ClaimMapViews
import Derived.JoinedTies
import Derived.KernelRfl
namespace Go.Proofs.Qxb6617583a
/- THE CELL 'sum', in the pinned program and in every row, IS THE sha256 OF THE DUMP (.gsa) THAT Qxb6617583aProg.lean LOADS. Nothing in Lean hashes anything: it is a label: what it is worth is what the hold of that sum in a sandbox is worth. -/
noncomputable def Try.pinned : Pinned := { name := "qxb6617583a", sum := "631ba10225643312456cbdb43f9da0d7f324ece253ba03b519b6d527bcc156b6", checked := Try.checked }
namespace Rows
def none {H : Type} : Left H := { results := [], args := [] }

/-- 'zzlaws_root_b1.FnFindFirstMatchAndCut': WHATEVER THE INPUT: true; the input reads as it did. -/
def fnFindFirstMatchAndCutSpec : ChangeSpec := { name := "fnFindFirstMatchAndCut", fn := fun _ => fun
  | [d1, d2, d3, d4] => { results := [.lit (.bool true)], args := [d1, d2, d3, d4] }
  | _ => none }
def fnFindFirstMatchAndCutRow : OpenClaim := { program := "qxb6617583a", sum := "631ba10225643312456cbdb43f9da0d7f324ece253ba03b519b6d527bcc156b6", func := "example.com/lexsign/lexsign/zzlaws_root_b1.FnFindFirstMatchAndCut", spec := "fnFindFirstMatchAndCut", inPlace := ["internal/bytealg.abigen_runtime_cmpstring"], unfollowed := true, recurses := true, apart := false }
def FnFindFirstMatchAndCutSaid : Prop := fnFindFirstMatchAndCutRow.holds Try.pinned (OpenSpec.ofChange fnFindFirstMatchAndCutSpec)

/-- ITS FALSE NEIGHBOUR: 'it returns false'. Refute it at one input. -/
def fnFindFirstMatchAndCutWrong : ChangeSpec := { name := "fnFindFirstMatchAndCut", fn := fun _ => fun
  | [d1, d2, d3, d4] => { results := [.lit (.bool false)], args := [d1, d2, d3, d4] }
  | _ => none }
def FnFindFirstMatchAndCutWrongFalsely : Prop := fnFindFirstMatchAndCutRow.holds Try.pinned (OpenSpec.ofChange fnFindFirstMatchAndCutWrong)

/-- 'zzlaws_root_b1.FnFindAfterInsert': WHATEVER THE INPUT: true; the input reads as it did. -/
def fnFindAfterInsertSpec : ChangeSpec := { name := "fnFindAfterInsert", fn := fun _ => fun
  | [d1, d2, d3, d4, d5, d6] => { results := [.lit (.bool true)], args := [d1, d2, d3, d4, d5, d6] }
  | _ => none }
def fnFindAfterInsertRow : OpenClaim := { program := "qxb6617583a", sum := "631ba10225643312456cbdb43f9da0d7f324ece253ba03b519b6d527bcc156b6", func := "example.com/lexsign/lexsign/zzlaws_root_b1.FnFindAfterInsert", spec := "fnFindAfterInsert", inPlace := ["internal/bytealg.abigen_runtime_cmpstring"], unfollowed := true, recurses := true, apart := false }
def FnFindAfterInsertSaid : Prop := fnFindAfterInsertRow.holds Try.pinned (OpenSpec.ofChange fnFindAfterInsertSpec)

/-- ITS FALSE NEIGHBOUR: 'it returns false'. Refute it at one input. -/
def fnFindAfterInsertWrong : ChangeSpec := { name := "fnFindAfterInsert", fn := fun _ => fun
  | [d1, d2, d3, d4, d5, d6] => { results := [.lit (.bool false)], args := [d1, d2, d3, d4, d5, d6] }
  | _ => none }
def FnFindAfterInsertWrongFalsely : Prop := fnFindAfterInsertRow.holds Try.pinned (OpenSpec.ofChange fnFindAfterInsertWrong)

end Rows
end Go.Proofs.Qxb6617583a
