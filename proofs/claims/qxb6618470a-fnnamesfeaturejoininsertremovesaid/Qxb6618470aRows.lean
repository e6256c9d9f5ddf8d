/-
  No cell of these rows narrows 'for every input' (looked for: loops, veiled, ifaces, maps, wideKeys, modest, calm, conditions, laid).
  DERIVED. THE GIVEN ROWS OF THIS SEAT. 1 by the template 'for every input the law returns true; each argument reads behind the call as it read before'; 0 by the template 'total and deterministic' (their statements: Qxb6618470aTotals.lean).
  GIVEN WITH THE SEED: the statements are not yours to turn. If you find one false, say at which input.
  Laid BY PROGRAM, IN A SANDBOX (cutbox-rows.mjs): the forced cells as the released guide's own fill.sh prints them over the translation 1f5ccef800d3d4d9… (all of the seat's roots in one cut). By AI agents, Wed Nov 11 2026. No macro, syntax, notation, axiom, sorry.
-/
import Derived.Test.Qxb6618470aChecked
import GoSem.Claim
import GoSem.ClaimJoined
import GoSem.ClaimMapViews
import Derived.JoinedTies
import Derived.KernelRfl
namespace Go.Proofs.Qxb6618470a
/- THE CELL 'sum', in the pinned program and in every row, IS THE sha256 OF THE DUMP (.gsa) THAT Qxb6618470aProg.lean LOADS. Nothing in Lean hashes anything: it is a label: what it is worth is what the hold of that sum in a sandbox is worth. -/
noncomputable def Try.pinned : Pinned := { name := "qxb6618470a", sum := "1f5ccef800d3d4d9fcd57399797c30a2452af3e3db8063e19a9432a62bcd4f61", checked := Try.checked }
namespace Rows
def none {H : Type} : Left H := { results := [], args := [] }

/-- 'zzlaws_internal_catalog_b1.FnNamesFeatureJoinInsertRemove': WHATEVER THE INPUT: true; the input reads as it did. -/
def fnNamesFeatureJoinInsertRemoveSpec : ChangeSpec := { name := "fnNamesFeatureJoinInsertRemove", fn := fun _ => fun
  | [d1, d2, d3, d4, d5] => { results := [.lit (.bool true)], args := [d1, d2, d3, d4, d5] }
  | _ => none }
def fnNamesFeatureJoinInsertRemoveRow : OpenClaim := { program := "qxb6618470a", sum := "1f5ccef800d3d4d9fcd57399797c30a2452af3e3db8063e19a9432a62bcd4f61", func := "example.com/bursar/bursar/zzlaws_internal_catalog_b1.FnNamesFeatureJoinInsertRemove", spec := "fnNamesFeatureJoinInsertRemove", apart := false }
def FnNamesFeatureJoinInsertRemoveSaid : Prop := fnNamesFeatureJoinInsertRemoveRow.holds Try.pinned (OpenSpec.ofChange fnNamesFeatureJoinInsertRemoveSpec)

/-- ITS FALSE NEIGHBOUR: 'it returns false'. Refute it at one input. -/
def fnNamesFeatureJoinInsertRemoveWrong : ChangeSpec := { name := "fnNamesFeatureJoinInsertRemove", fn := fun _ => fun
  | [d1, d2, d3, d4, d5] => { results := [.lit (.bool false)], args := [d1, d2, d3, d4, d5] }
  | _ => none }
def FnNamesFeatureJoinInsertRemoveWrongFalsely : Prop := fnNamesFeatureJoinInsertRemoveRow.holds Try.pinned (OpenSpec.ofChange fnNamesFeatureJoinInsertRemoveWrong)

end Rows
end Go.Proofs.Qxb6618470a
