/-
  No cell of these rows narrows 'for every input' (looked for: loops, veiled, ifaces, maps, wideKeys, modest, calm, conditions, laid).
  DERIVED. THE GIVEN ROWS OF THIS SEAT. 4 by the template 'for every input the law returns true; each argument reads behind the call as it read before'; 0 by the template 'total and deterministic' (their statements: Qxb6619316aTotals.lean).
  GIVEN WITH THE SEED: the statements are not yours to turn. If you find one false, say at which input.
  Laid BY PROGRAM, IN A SANDBOX (cutbox-rows.mjs): the forced cells as the released guide's own fill.sh prints them over the translation 60caca5f0c9397e9… (all of the seat's roots in one cut). By AI agents, Wed Nov 11 2026. No macro, syntax, notation, axiom, sorry.
-/
import Derived.Test.Qxb6619316aChecked
import GoSem.Claim
import GoSem.ClaimJoined
import GoSem.ClaimMapViews
import Derived.JoinedTies
import Derived.KernelRfl
namespace Go.Proofs.Qxb6619316a
/- THE CELL 'sum', in the pinned program and in every row, IS THE sha256 OF THE DUMP (.gsa) THAT Qxb6619316aProg.lean LOADS. Nothing in Lean hashes anything: it is a label: what it is worth is what the hold of that sum in a sandbox is worth. -/
noncomputable def Try.pinned : Pinned := { name := "qxb6619316a", sum := "60caca5f0c9397e91521a8b3fc019fa846b641f7ea411cab7ec4b090a44763cf", checked := Try.checked }
namespace Rows
def none {H : Type} : Left H := { results := [], args := [] }

/-- 'zzlaws_election_b1.FnSolutionsMergeAtAnyCut': WHATEVER THE INPUT: true; the input reads as it did. -/
def fnSolutionsMergeAtAnyCutSpec : ChangeSpec := { name := "fnSolutionsMergeAtAnyCut", fn := fun _ => fun
  | [d1, d2] => { results := [.lit (.bool true)], args := [d1, d2] }
  | _ => none }
def fnSolutionsMergeAtAnyCutRow : OpenClaim := { program := "qxb6619316a", sum := "60caca5f0c9397e91521a8b3fc019fa846b641f7ea411cab7ec4b090a44763cf", func := "example.com/credence/credence/zzlaws_election_b1.FnSolutionsMergeAtAnyCut", spec := "fnSolutionsMergeAtAnyCut", apart := false }
def FnSolutionsMergeAtAnyCutSaid : Prop := fnSolutionsMergeAtAnyCutRow.holds Try.pinned (OpenSpec.ofChange fnSolutionsMergeAtAnyCutSpec)

/-- ITS FALSE NEIGHBOUR: 'it returns false'. Refute it at one input. -/
def fnSolutionsMergeAtAnyCutWrong : ChangeSpec := { name := "fnSolutionsMergeAtAnyCut", fn := fun _ => fun
  | [d1, d2] => { results := [.lit (.bool false)], args := [d1, d2] }
  | _ => none }
def FnSolutionsMergeAtAnyCutWrongFalsely : Prop := fnSolutionsMergeAtAnyCutRow.holds Try.pinned (OpenSpec.ofChange fnSolutionsMergeAtAnyCutWrong)

/-- 'zzlaws_election_b1.FnSolutionsBoundEveryEntryAndAbsorbTheirOwnRows': WHATEVER THE INPUT: true; the input reads as it did. -/
def fnSolutionsBoundEveryEntryAndAbsorbTheirOwnRowsSpec : ChangeSpec := { name := "fnSolutionsBoundEveryEntryAndAbsorbTheirOwnRows", fn := fun _ => fun
  | [d] => { results := [.lit (.bool true)], args := [d] }
  | _ => none }
def fnSolutionsBoundEveryEntryAndAbsorbTheirOwnRowsRow : OpenClaim := { program := "qxb6619316a", sum := "60caca5f0c9397e91521a8b3fc019fa846b641f7ea411cab7ec4b090a44763cf", func := "example.com/credence/credence/zzlaws_election_b1.FnSolutionsBoundEveryEntryAndAbsorbTheirOwnRows", spec := "fnSolutionsBoundEveryEntryAndAbsorbTheirOwnRows", apart := false }
def FnSolutionsBoundEveryEntryAndAbsorbTheirOwnRowsSaid : Prop := fnSolutionsBoundEveryEntryAndAbsorbTheirOwnRowsRow.holds Try.pinned (OpenSpec.ofChange fnSolutionsBoundEveryEntryAndAbsorbTheirOwnRowsSpec)

/-- ITS FALSE NEIGHBOUR: 'it returns false'. Refute it at one input. -/
def fnSolutionsBoundEveryEntryAndAbsorbTheirOwnRowsWrong : ChangeSpec := { name := "fnSolutionsBoundEveryEntryAndAbsorbTheirOwnRows", fn := fun _ => fun
  | [d] => { results := [.lit (.bool false)], args := [d] }
  | _ => none }
def FnSolutionsBoundEveryEntryAndAbsorbTheirOwnRowsWrongFalsely : Prop := fnSolutionsBoundEveryEntryAndAbsorbTheirOwnRowsRow.holds Try.pinned (OpenSpec.ofChange fnSolutionsBoundEveryEntryAndAbsorbTheirOwnRowsWrong)

/-- 'zzlaws_election_b1.FnClosenessGaugeCandidatePutInAnywhere': WHATEVER THE INPUT: true; the input reads as it did. -/
def fnClosenessGaugeCandidatePutInAnywhereSpec : ChangeSpec := { name := "fnClosenessGaugeCandidatePutInAnywhere", fn := fun _ => fun
  | [d1, d2, d3] => { results := [.lit (.bool true)], args := [d1, d2, d3] }
  | _ => none }
def fnClosenessGaugeCandidatePutInAnywhereRow : OpenClaim := { program := "qxb6619316a", sum := "60caca5f0c9397e91521a8b3fc019fa846b641f7ea411cab7ec4b090a44763cf", func := "example.com/credence/credence/zzlaws_election_b1.FnClosenessGaugeCandidatePutInAnywhere", spec := "fnClosenessGaugeCandidatePutInAnywhere", apart := false }
def FnClosenessGaugeCandidatePutInAnywhereSaid : Prop := fnClosenessGaugeCandidatePutInAnywhereRow.holds Try.pinned (OpenSpec.ofChange fnClosenessGaugeCandidatePutInAnywhereSpec)

/-- ITS FALSE NEIGHBOUR: 'it returns false'. Refute it at one input. -/
def fnClosenessGaugeCandidatePutInAnywhereWrong : ChangeSpec := { name := "fnClosenessGaugeCandidatePutInAnywhere", fn := fun _ => fun
  | [d1, d2, d3] => { results := [.lit (.bool false)], args := [d1, d2, d3] }
  | _ => none }
def FnClosenessGaugeCandidatePutInAnywhereWrongFalsely : Prop := fnClosenessGaugeCandidatePutInAnywhereRow.holds Try.pinned (OpenSpec.ofChange fnClosenessGaugeCandidatePutInAnywhereWrong)

/-- 'zzlaws_election_b1.FnClosenessDominanceAndRange': WHATEVER THE INPUT: true; the input reads as it did. -/
def fnClosenessDominanceAndRangeSpec : ChangeSpec := { name := "fnClosenessDominanceAndRange", fn := fun _ => fun
  | [d1, d2, d3, d4] => { results := [.lit (.bool true)], args := [d1, d2, d3, d4] }
  | _ => none }
def fnClosenessDominanceAndRangeRow : OpenClaim := { program := "qxb6619316a", sum := "60caca5f0c9397e91521a8b3fc019fa846b641f7ea411cab7ec4b090a44763cf", func := "example.com/credence/credence/zzlaws_election_b1.FnClosenessDominanceAndRange", spec := "fnClosenessDominanceAndRange", apart := false }
def FnClosenessDominanceAndRangeSaid : Prop := fnClosenessDominanceAndRangeRow.holds Try.pinned (OpenSpec.ofChange fnClosenessDominanceAndRangeSpec)

/-- ITS FALSE NEIGHBOUR: 'it returns false'. Refute it at one input. -/
def fnClosenessDominanceAndRangeWrong : ChangeSpec := { name := "fnClosenessDominanceAndRange", fn := fun _ => fun
  | [d1, d2, d3, d4] => { results := [.lit (.bool false)], args := [d1, d2, d3, d4] }
  | _ => none }
def FnClosenessDominanceAndRangeWrongFalsely : Prop := fnClosenessDominanceAndRangeRow.holds Try.pinned (OpenSpec.ofChange fnClosenessDominanceAndRangeWrong)

end Rows
end Go.Proofs.Qxb6619316a
