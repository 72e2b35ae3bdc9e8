/-
  No cell of these rows narrows 'for every input' (looked for: loops, veiled, ifaces, maps, wideKeys, modest, calm, conditions, laid).
  DERIVED. THE GIVEN ROWS OF THIS SEAT. 2 by the template 'for every input the law returns true; each argument reads behind the call as it read before'; 0 by the template 'total and deterministic' (their statements: Qxb6618368aTotals.lean).
  GIVEN WITH THE SEED: the statements are not yours to turn. If you find one false, say at which input.
  Laid BY PROGRAM, IN A SANDBOX (cutbox-rows.mjs): the forced cells as the released guide's own fill.sh prints them over the translation 4f91825e9e404584… (all of the seat's roots in one cut). By AI agents, Wed Nov 11 2026. No macro, syntax, notation, axiom, sorry.
-/
import Derived.Test.Qxb6618368aChecked
import GoSem.Claim
import GoSem.ClaimJoined
import GoSem.ClaimMapViews
import Derived.JoinedTies
import Derived.KernelRfl
namespace Go.Proofs.Qxb6618368a
/- THE CELL 'sum', in the pinned program and in every row, IS THE sha256 OF THE DUMP (.gsa) THAT Qxb6618368aProg.lean LOADS. Nothing in Lean hashes anything: it is a label: what it is worth is what the hold of that sum in a sandbox is worth. -/
noncomputable def Try.pinned : Pinned := { name := "qxb6618368a", sum := "4f91825e9e4045845b3cb909d84b6840537742c6b9fb239114274c06974a7612", checked := Try.checked }
namespace Rows
def none {H : Type} : Left H := { results := [], args := [] }

/-- 'zzlaws_pkg_catalog_b1.FnDifferMatchesStoredForms': WHATEVER THE INPUT: true; the input reads as it did. -/
def fnDifferMatchesStoredFormsSpec : ChangeSpec := { name := "fnDifferMatchesStoredForms", fn := fun _ => fun
  | [d1, d2, d3, d4, d5, d6] => { results := [.lit (.bool true)], args := [d1, d2, d3, d4, d5, d6] }
  | _ => none }
def fnDifferMatchesStoredFormsRow : OpenClaim := { program := "qxb6618368a", sum := "4f91825e9e4045845b3cb909d84b6840537742c6b9fb239114274c06974a7612", func := "example.com/lockscope/lockscope/zzlaws_pkg_catalog_b1.FnDifferMatchesStoredForms", spec := "fnDifferMatchesStoredForms", unfollowed := true, recurses := true, apart := false }
def FnDifferMatchesStoredFormsSaid : Prop := fnDifferMatchesStoredFormsRow.holds Try.pinned (OpenSpec.ofChange fnDifferMatchesStoredFormsSpec)

/-- ITS FALSE NEIGHBOUR: 'it returns false'. Refute it at one input. -/
def fnDifferMatchesStoredFormsWrong : ChangeSpec := { name := "fnDifferMatchesStoredForms", fn := fun _ => fun
  | [d1, d2, d3, d4, d5, d6] => { results := [.lit (.bool false)], args := [d1, d2, d3, d4, d5, d6] }
  | _ => none }
def FnDifferMatchesStoredFormsWrongFalsely : Prop := fnDifferMatchesStoredFormsRow.holds Try.pinned (OpenSpec.ofChange fnDifferMatchesStoredFormsWrong)

/-- 'zzlaws_pkg_catalog_b1.FnDifferIsAnEquivalenceAndSeesOneMoreByte': WHATEVER THE INPUT: true; the input reads as it did. -/
def fnDifferIsAnEquivalenceAndSeesOneMoreByteSpec : ChangeSpec := { name := "fnDifferIsAnEquivalenceAndSeesOneMoreByte", fn := fun _ => fun
  | [d1, d2, d3, d4, d5, d6, d7, d8] => { results := [.lit (.bool true)], args := [d1, d2, d3, d4, d5, d6, d7, d8] }
  | _ => none }
def fnDifferIsAnEquivalenceAndSeesOneMoreByteRow : OpenClaim := { program := "qxb6618368a", sum := "4f91825e9e4045845b3cb909d84b6840537742c6b9fb239114274c06974a7612", func := "example.com/lockscope/lockscope/zzlaws_pkg_catalog_b1.FnDifferIsAnEquivalenceAndSeesOneMoreByte", spec := "fnDifferIsAnEquivalenceAndSeesOneMoreByte", unfollowed := true, recurses := true, apart := false }
def FnDifferIsAnEquivalenceAndSeesOneMoreByteSaid : Prop := fnDifferIsAnEquivalenceAndSeesOneMoreByteRow.holds Try.pinned (OpenSpec.ofChange fnDifferIsAnEquivalenceAndSeesOneMoreByteSpec)

/-- ITS FALSE NEIGHBOUR: 'it returns false'. Refute it at one input. -/
def fnDifferIsAnEquivalenceAndSeesOneMoreByteWrong : ChangeSpec := { name := "fnDifferIsAnEquivalenceAndSeesOneMoreByte", fn := fun _ => fun
  | [d1, d2, d3, d4, d5, d6, d7, d8] => { results := [.lit (.bool false)], args := [d1, d2, d3, d4, d5, d6, d7, d8] }
  | _ => none }
def FnDifferIsAnEquivalenceAndSeesOneMoreByteWrongFalsely : Prop := fnDifferIsAnEquivalenceAndSeesOneMoreByteRow.holds Try.pinned (OpenSpec.ofChange fnDifferIsAnEquivalenceAndSeesOneMoreByteWrong)

end Rows
end Go.Proofs.Qxb6618368a
