/-
  FnClosenessGaugeCandidatePutInAnywhere: the ways that leave ahead of the copies.
-/
import Derived.Test.Qxb6619316aDomParts
namespace Go.Proofs.Qxb6619316a
open Go.RowKit

set_option maxRecDepth 100000 in
set_option maxHeartbeats 1000000 in
theorem gauge_early (a b : Option Addr) (na nb ca cb : Nat) (p : Int) (w : World) (ha : na ≤ 9223372036854775807) (hb : nb ≤ 9223372036854775807) (h : 65536 < na ∨ (na ≤ 65536 ∧ 65536 < nb)) :
    Calls Try.prog 5 #[.slice a na ca, .slice b nb cb, .int .i64 p] w fun e w' => e = .returned (.bool true) ∧ Below w.heap.size w w' := by
  have HBY := bytes15 a b na nb ca cb p w ha hb
  go_enter Try.func5, Try.ntmps5
  go_wp2_with fail
  refine HBY.mono ?_
  clear HBY
  rintro e w' ⟨r, rfl, _, rfl⟩
  cases r with
  | false =>
    go_wp2
    go_ret
    exact ⟨rfl, Below.refl _ _⟩
  | true =>
    rcases h with h | ⟨h1, h2⟩
    · go_wp2
      go_ret
      exact ⟨rfl, Below.refl _ _⟩
    · go_wp2
      go_ret
      exact ⟨rfl, Below.refl _ _⟩
end Go.Proofs.Qxb6619316a
