/-
  No cell of these rows narrows 'for every input' (looked for: loops, veiled, ifaces, maps, wideKeys, modest, calm, conditions, laid).
  DERIVED. THE GIVEN ROWS OF THIS SEAT. 1 by the template 'for every input the law returns true; each argument reads behind the call as it read before'; 0 by the template 'total and deterministic' (their statements: Qxb6619290aTotals.lean).
  GIVEN WITH THE SEED: the statements are not yours to turn. If you find one false, say at which input.
  Laid BY PROGRAM, IN A SANDBOX (cutbox-rows.mjs): the forced cells as the released guide's own fill.sh prints them over the translation 0b46c93ac7eee32a… (all of the seat's roots in one cut). By AI agents, Wed Nov 11 2026. No macro, syntax, notation, axiom, sorry.
-/
import Derived.Test.Qxb6619290aChecked
import GoSem.Claim
import GoSem.ClaimJoined
import GoSem.ClaimMapViews
import Derived.JoinedTies
import Derived.KernelRfl
namespace Go.Proofs.Qxb6619290a
/- THE CELL 'sum', in the pinned program and in every row, IS THE sha256 OF THE DUMP (.gsa) THAT Qxb6619290aProg.lean LOADS. Nothing in Lean hashes anything: it is a label: what it is worth is what the hold of that sum in a sandbox is worth. -/
noncomputable def Try.pinned : Pinned := { name := "qxb6619290a", sum := "0b46c93ac7eee32a442b06af5e18d3730acf0459edcd8c1d43b606ea324bed05", checked := Try.checked }
namespace Rows
def none {H : Type} : Left H := { results := [], args := [] }

/-- 'zzlaws_pkg_hookfile_b1.FnAliasShareFallsEvenlyFromNinetyNineToTenPercent': WHATEVER THE INPUT: true; the input reads as it did. -/
def fnAliasShareFallsEvenlyFromNinetyNineToTenPercentSpec : ChangeSpec := { name := "fnAliasShareFallsEvenlyFromNinetyNineToTenPercent", fn := fun _ => fun
  | [d1, d2] => { results := [.lit (.bool true)], args := [d1, d2] }
  | _ => none }
def fnAliasShareFallsEvenlyFromNinetyNineToTenPercentRow : OpenClaim := { program := "qxb6619290a", sum := "0b46c93ac7eee32a442b06af5e18d3730acf0459edcd8c1d43b606ea324bed05", func := "example.com/hookwright/hookwright/zzlaws_pkg_hookfile_b1.FnAliasShareFallsEvenlyFromNinetyNineToTenPercent", spec := "fnAliasShareFallsEvenlyFromNinetyNineToTenPercent", apart := false }
def FnAliasShareFallsEvenlyFromNinetyNineToTenPercentSaid : Prop := fnAliasShareFallsEvenlyFromNinetyNineToTenPercentRow.holds Try.pinned (OpenSpec.ofChange fnAliasShareFallsEvenlyFromNinetyNineToTenPercentSpec)

/-- ITS FALSE NEIGHBOUR: 'it returns false'. Refute it at one input. -/
def fnAliasShareFallsEvenlyFromNinetyNineToTenPercentWrong : ChangeSpec := { name := "fnAliasShareFallsEvenlyFromNinetyNineToTenPercent", fn := fun _ => fun
  | [d1, d2] => { results := [.lit (.bool false)], args := [d1, d2] }
  | _ => none }
def FnAliasShareFallsEvenlyFromNinetyNineToTenPercentWrongFalsely : Prop := fnAliasShareFallsEvenlyFromNinetyNineToTenPercentRow.holds Try.pinned (OpenSpec.ofChange fnAliasShareFallsEvenlyFromNinetyNineToTenPercentWrong)

end Rows
end Go.Proofs.Qxb6619290a
