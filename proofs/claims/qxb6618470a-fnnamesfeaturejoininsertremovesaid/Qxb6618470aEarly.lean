import Derived.Test.Qxb6618470aBytes
namespace Go.Proofs.Qxb6618470a
open Go.RowKit

set_option maxRecDepth 100000 in
set_option maxHeartbeats 1000000 in
/-- The ways that leave early: the three strings are too long. -/
theorem early (d id sha : ByteArray) (a b : Option Addr) (A B : List ByteArray) (ca cb : Nat) (w : World) (hla : A.length ≤ 9223372036854775807) (hlb : B.length ≤ 9223372036854775807)
    (hA : Reads w.heap.size w a A) (hB : Reads w.heap.size w b B) (hd : d.size ≤ 9223372036854775807) (hid : id.size ≤ 9223372036854775807) (hsha : sha.size ≤ 9223372036854775807) (hsum : ¬ d.size + id.size + sha.size ≤ 1048576)
    (hsA : ∀ s ∈ A, s.size ≤ 9223372036854775807) (hsB : ∀ s ∈ B, s.size ≤ 9223372036854775807) :
    Calls Try.prog 3 #[.string d, .slice a A.length ca, .slice b B.length cb, .string id, .string sha] w fun e w' => e = .returned (.bool true) ∧ Below w.heap.size w w' := by
  have HBY := bytes_any d id sha a b A B ca cb w hla hlb hA hB hd hid hsha hsA hsB
  clear hA hB hsA hsB
  go_enter Try.func3, Try.ntmps3
  go_wp2_with fail
  refine HBY.mono ?_
  clear HBY
  rintro e w' ⟨r, rfl, _, rfl⟩
  cases r with
  | false =>
    go_wp2
    go_ret
    exact ⟨rfl, Below.refl _ _⟩
  | true =>
    by_cases h1 : d.size ≤ 1048576
    rotate_left
    · go_wp2
      go_ret
      exact ⟨rfl, Below.refl _ _⟩
    by_cases h2 : id.size ≤ 1048576
    rotate_left
    · go_wp2
      go_ret
      exact ⟨rfl, Below.refl _ _⟩
    by_cases h3 : sha.size ≤ 1048576
    rotate_left
    · go_wp2
      go_ret
      exact ⟨rfl, Below.refl _ _⟩
    by_cases h4 : d.size + id.size ≤ 1048576
    rotate_left
    · go_wp2
      go_ret
      exact ⟨rfl, Below.refl _ _⟩
    go_wp2
    go_ret
    exact ⟨rfl, Below.refl _ _⟩
end Go.Proofs.Qxb6618470a
