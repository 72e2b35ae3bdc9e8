/-
  No cell of these rows narrows 'for every input' (looked for: loops, veiled, ifaces, maps, wideKeys, modest, calm, conditions, laid).
  DERIVED. THE GIVEN ROWS OF THIS SEAT. 1 by the template 'for every input the law returns true; each argument reads behind the call as it read before'; 0 by the template 'total and deterministic' (their statements: Qxb6618454aTotals.lean).
  GIVEN WITH THE SEED: the statements are not yours to turn. If you find one false, say at which input.
  Laid BY PROGRAM, IN A SANDBOX (cutbox-rows.mjs): the forced cells as the released guide's own fill.sh prints them over the translation e69eb619f7d9dba2… (all of the seat's roots in one cut). By AI agents, Wed Nov 11 2026. No macro, syntax, notation, axiom, sorry.
-/
import Derived.Test.Qxb6618454aChecked
import GoSem.Claim
import GoSem.ClaimJoined
import GoSem.ClaimMapViews
import Derived.JoinedTies
import Derived.KernelRfl
namespace Go.Proofs.Qxb6618454a
/- THE CELL 'sum', in the pinned program and in every row, IS THE sha256 OF THE DUMP (.gsa) THAT Qxb6618454aProg.lean LOADS. Nothing in Lean hashes anything: it is a label: what it is worth is what the hold of that sum in a sandbox is worth. -/
noncomputable def Try.pinned : Pinned := { name := "qxb6618454a", sum := "e69eb619f7d9dba26d52ff0313bd259f1fb418257b8fb144bb7ca503e57b47ff", checked := Try.checked }
namespace Rows
def none {H : Type} : Left H := { results := [], args := [] }

/-- 'zzlaws_plan_b1.FnForbidsJoinInsertRemove': WHATEVER THE INPUT: true; the input reads as it did. -/
def fnForbidsJoinInsertRemoveSpec : ChangeSpec := { name := "fnForbidsJoinInsertRemove", fn := fun _ => fun
  | [d1, d2, d3, d4] => { results := [.lit (.bool true)], args := [d1, d2, d3, d4] }
  | _ => none }
def fnForbidsJoinInsertRemoveRow : OpenClaim := { program := "qxb6618454a", sum := "e69eb619f7d9dba26d52ff0313bd259f1fb418257b8fb144bb7ca503e57b47ff", func := "example.com/vestbook/vestbook/zzlaws_plan_b1.FnForbidsJoinInsertRemove", spec := "fnForbidsJoinInsertRemove", apart := false }
def FnForbidsJoinInsertRemoveSaid : Prop := fnForbidsJoinInsertRemoveRow.holds Try.pinned (OpenSpec.ofChange fnForbidsJoinInsertRemoveSpec)

/-- ITS FALSE NEIGHBOUR: 'it returns false'. Refute it at one input. -/
def fnForbidsJoinInsertRemoveWrong : ChangeSpec := { name := "fnForbidsJoinInsertRemove", fn := fun _ => fun
  | [d1, d2, d3, d4] => { results := [.lit (.bool false)], args := [d1, d2, d3, d4] }
  | _ => none }
def FnForbidsJoinInsertRemoveWrongFalsely : Prop := fnForbidsJoinInsertRemoveRow.holds Try.pinned (OpenSpec.ofChange fnForbidsJoinInsertRemoveWrong)

end Rows
end Go.Proofs.Qxb6618454a
