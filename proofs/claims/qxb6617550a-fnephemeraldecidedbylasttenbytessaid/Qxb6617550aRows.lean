/-
  No cell of these rows narrows 'for every input' (looked for: loops, veiled, ifaces, maps, wideKeys, modest, calm, conditions, laid).
  DERIVED. THE GIVEN ROWS OF THIS SEAT. 1 by the template 'for every input the law returns true; each argument reads behind the call as it read before'; 0 by the template 'total and deterministic' (their statements: Qxb6617550aTotals.lean).
  GIVEN WITH THE SEED: the statements are not yours to turn. If you find one false, say at which input.
  Laid BY PROGRAM, IN A SANDBOX (cutbox-rows.mjs): the forced cells as the released guide's own fill.sh prints them over the translation a2a6cb1446c26d9b… (all of the seat's roots in one cut). By AI agents, Wed Nov 11 2026. No macro, syntax, notation, axiom, sorry.
-/
import Derived.Test.Qxb6617550aChecked
import GoSem.Claim
import GoSem.ClaimJoined
import GoSem.ClaimMapViews
import Derived.JoinedTies
import Derived.KernelRfl
namespace Go.Proofs.Qxb6617550a
/- THE CELL 'sum', in the pinned program and in every row, IS THE sha256 OF THE DUMP (.gsa) THAT Qxb6617550aProg.lean LOADS. Nothing in Lean hashes anything: it is a label: what it is worth is what the hold of that sum in a sandbox is worth. -/
noncomputable def Try.pinned : Pinned := { name := "qxb6617550a", sum := "a2a6cb1446c26d9b5102cfd5b07b3aef1716337201a2a9a363f290ca7d0858c6", checked := Try.checked }
namespace Rows
def none {H : Type} : Left H := { results := [], args := [] }

/-- 'zzlaws_wire_b1.FnEphemeralDecidedByLastTenBytes': WHATEVER THE INPUT: true; the input reads as it did. -/
def fnEphemeralDecidedByLastTenBytesSpec : ChangeSpec := { name := "fnEphemeralDecidedByLastTenBytes", fn := fun _ => fun
  | [d1, d2] => { results := [.lit (.bool true)], args := [d1, d2] }
  | _ => none }
def fnEphemeralDecidedByLastTenBytesRow : OpenClaim := { program := "qxb6617550a", sum := "a2a6cb1446c26d9b5102cfd5b07b3aef1716337201a2a9a363f290ca7d0858c6", func := "example.com/topic-to-channel/topic-to-channel/zzlaws_wire_b1.FnEphemeralDecidedByLastTenBytes", spec := "fnEphemeralDecidedByLastTenBytes", apart := false }
def FnEphemeralDecidedByLastTenBytesSaid : Prop := fnEphemeralDecidedByLastTenBytesRow.holds Try.pinned (OpenSpec.ofChange fnEphemeralDecidedByLastTenBytesSpec)

/-- ITS FALSE NEIGHBOUR: 'it returns false'. Refute it at one input. -/
def fnEphemeralDecidedByLastTenBytesWrong : ChangeSpec := { name := "fnEphemeralDecidedByLastTenBytes", fn := fun _ => fun
  | [d1, d2] => { results := [.lit (.bool false)], args := [d1, d2] }
  | _ => none }
def FnEphemeralDecidedByLastTenBytesWrongFalsely : Prop := fnEphemeralDecidedByLastTenBytesRow.holds Try.pinned (OpenSpec.ofChange fnEphemeralDecidedByLastTenBytesWrong)

end Rows
end Go.Proofs.Qxb6617550a
