/-
  No cell of these rows narrows 'for every input' (looked for: loops, veiled, ifaces, maps, wideKeys, modest, calm, conditions, laid).
  DERIVED. THE GIVEN ROWS OF THIS SEAT. 2 by the template 'for every input the law returns true; each argument reads behind the call as it read before'; 0 by the template 'total and deterministic' (their statements: Qxb6618469aTotals.lean).
  GIVEN WITH THE SEED: the statements are not yours to turn. If you find one false, say at which input.
  Laid BY PROGRAM, IN A SANDBOX (cutbox-rows.mjs): the forced cells as the released guide's own fill.sh prints them over the translation 1face97f47b7dbfc… (all of the seat's roots in one cut). By AI agents, Wed Nov 11 2026. No macro, syntax, notation, axiom, sorry.
-/
import Derived.Test.Qxb6618469aChecked
import GoSem.Claim
import GoSem.ClaimJoined
import GoSem.ClaimMapViews
import Derived.JoinedTies
import Derived.KernelRfl
namespace Go.Proofs.Qxb6618469a
/- THE CELL 'sum', in the pinned program and in every row, IS THE sha256 OF THE DUMP (.gsa) THAT Qxb6618469aProg.lean LOADS. Nothing in Lean hashes anything: it is a label: what it is worth is what the hold of that sum in a sandbox is worth. -/
noncomputable def Try.pinned : Pinned := { name := "qxb6618469a", sum := "1face97f47b7dbfcaa1bb317031725eaa38e9d617803cc814166a464850c35b6", checked := Try.checked }
namespace Rows
def none {H : Type} : Left H := { results := [], args := [] }

/-- 'zzlaws_root_b1.FnNamedInsertAndCut': WHATEVER THE INPUT: true; the input reads as it did. -/
def fnNamedInsertAndCutSpec : ChangeSpec := { name := "fnNamedInsertAndCut", fn := fun _ => fun
  | [d1, d2, d3, d4, d5] => { results := [.lit (.bool true)], args := [d1, d2, d3, d4, d5] }
  | _ => none }
def fnNamedInsertAndCutRow : OpenClaim := { program := "qxb6618469a", sum := "1face97f47b7dbfcaa1bb317031725eaa38e9d617803cc814166a464850c35b6", func := "example.com/foreread/foreread/zzlaws_root_b1.FnNamedInsertAndCut", spec := "fnNamedInsertAndCut", apart := false }
def FnNamedInsertAndCutSaid : Prop := fnNamedInsertAndCutRow.holds Try.pinned (OpenSpec.ofChange fnNamedInsertAndCutSpec)

/-- ITS FALSE NEIGHBOUR: 'it returns false'. Refute it at one input. -/
def fnNamedInsertAndCutWrong : ChangeSpec := { name := "fnNamedInsertAndCut", fn := fun _ => fun
  | [d1, d2, d3, d4, d5] => { results := [.lit (.bool false)], args := [d1, d2, d3, d4, d5] }
  | _ => none }
def FnNamedInsertAndCutWrongFalsely : Prop := fnNamedInsertAndCutRow.holds Try.pinned (OpenSpec.ofChange fnNamedInsertAndCutWrong)

/-- 'zzlaws_root_b1.FnNamedRemoveAll': WHATEVER THE INPUT: true; the input reads as it did. -/
def fnNamedRemoveAllSpec : ChangeSpec := { name := "fnNamedRemoveAll", fn := fun _ => fun
  | [d1, d2, d3] => { results := [.lit (.bool true)], args := [d1, d2, d3] }
  | _ => none }
def fnNamedRemoveAllRow : OpenClaim := { program := "qxb6618469a", sum := "1face97f47b7dbfcaa1bb317031725eaa38e9d617803cc814166a464850c35b6", func := "example.com/foreread/foreread/zzlaws_root_b1.FnNamedRemoveAll", spec := "fnNamedRemoveAll", apart := false }
def FnNamedRemoveAllSaid : Prop := fnNamedRemoveAllRow.holds Try.pinned (OpenSpec.ofChange fnNamedRemoveAllSpec)

/-- ITS FALSE NEIGHBOUR: 'it returns false'. Refute it at one input. -/
def fnNamedRemoveAllWrong : ChangeSpec := { name := "fnNamedRemoveAll", fn := fun _ => fun
  | [d1, d2, d3] => { results := [.lit (.bool false)], args := [d1, d2, d3] }
  | _ => none }
def FnNamedRemoveAllWrongFalsely : Prop := fnNamedRemoveAllRow.holds Try.pinned (OpenSpec.ofChange fnNamedRemoveAllWrong)

end Rows
end Go.Proofs.Qxb6618469a
