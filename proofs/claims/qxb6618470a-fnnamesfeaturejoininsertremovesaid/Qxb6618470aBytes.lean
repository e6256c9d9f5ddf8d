import Derived.Test.Qxb6618470aNamed
namespace Go.Proofs.Qxb6618470a
open Go.RowKit

/-- What 'zzBytes' leaves (behind a name, so that the walk lets it stand). -/
def Told (n : Nat) (w : World) (e : Ending) (w' : World) : Prop := ∃ r, e = .returned (.bool r) ∧ (r = true → n ≤ 1048576) ∧ w = w'

set_option maxRecDepth 100000 in
set_option maxHeartbeats 1000000 in
/-- 'zzBytes': where it says yes, the two lists' lengths add up to at most 1 << 20. -/
theorem bytes_any (d id sha : ByteArray) (a b : Option Addr) (A B : List ByteArray) (ca cb : Nat) (w : World) (hla : A.length ≤ 9223372036854775807) (hlb : B.length ≤ 9223372036854775807)
    (hA : Reads w.heap.size w a A) (hB : Reads w.heap.size w b B) (hd : d.size ≤ 9223372036854775807) (hid : id.size ≤ 9223372036854775807) (hsha : sha.size ≤ 9223372036854775807)
    (hsA : ∀ s ∈ A, s.size ≤ 9223372036854775807) (hsB : ∀ s ∈ B, s.size ≤ 9223372036854775807) :
    Calls Try.prog 4 #[.string d, .slice a A.length ca, .slice b B.length cb, .string id, .string sha] w fun e w' => Told (A.length + B.length) w e w' := by
  have HA : Hid (Reads w.heap.size w a A) := hA
  have HB : Hid (Reads w.heap.size w b B) := hB
  have HSA : Hid (∀ s ∈ A, s.size ≤ 9223372036854775807) := hsA
  have HSB : Hid (∀ s ∈ B, s.size ≤ 9223372036854775807) := hsB
  clear hA hB hsA hsB
  by_cases h1 : d.size ≤ 1048576
  rotate_left
  · go_enter Try.func4, Try.ntmps4
    go_wp2
    go_ret
    exact ⟨false, rfl, by simp, rfl⟩
  by_cases h2 : A.length ≤ 1048576
  rotate_left
  · go_enter Try.func4, Try.ntmps4
    go_wp2
    go_ret
    exact ⟨false, rfl, by simp, rfl⟩
  by_cases h3 : d.size + A.length ≤ 1048576
  rotate_left
  · go_enter Try.func4, Try.ntmps4
    go_wp2
    go_ret
    exact ⟨false, rfl, by simp, rfl⟩
  go_enter Try.func4, Try.ntmps4
  go_wp2
  go_loop [11, 12] (fun z i => ∃ k n : Nat, k ≤ A.length ∧ i = .int .i64 k ∧ z = .int .i64 n ∧ A.length ≤ n ∧ n ≤ 1048576) (fun _ i => A.length - (intOf i).toNat)
  case atStart => exact ⟨0, d.size + A.length, Nat.zero_le _, rfl, by go_num, by omega, by omega⟩
  case round =>
    obtain ⟨k, n, hk, rfl, rfl, hn1, hn2⟩ := hrel
    by_cases hlt : k < A.length
    · obtain ⟨bb, off, rfl, _, hcell⟩ := HA.out.resolve_left (by rintro rfl; simp at hlt)
      obtain ⟨x, hx⟩ : ∃ x, A.getD k ByteArray.empty = x := ⟨_, rfl⟩
      have hxs : x.size ≤ 9223372036854775807 := HSA.out x (by rw [← hx]; simp [List.getD, hlt])
      have hck := hcell k hlt
      rw [hx] at hck
      clear hx hcell
      by_cases h4 : x.size ≤ 1048576
      · by_cases h5 : n + x.size ≤ 1048576
        · go_wp2
          go_round
          case rel => exact ⟨k + 1, n + x.size, by omega, by go_num, by go_num, by omega, by omega⟩
          case measure => simp [intOf]; omega
        · go_wp2
          go_ret
          exact ⟨false, rfl, by simp, rfl⟩
      · go_wp2
        go_ret
        exact ⟨false, rfl, by simp, rfl⟩
    · by_cases h4 : B.length ≤ 1048576
      rotate_left
      · go_wp2
        go_ret
        exact ⟨false, rfl, by simp, rfl⟩
      by_cases h5 : n + B.length ≤ 1048576
      rotate_left
      · go_wp2
        go_ret
        exact ⟨false, rfl, by simp, rfl⟩
      go_wp2
      go_loop [11, 13] (fun z i => ∃ k n : Nat, k ≤ B.length ∧ i = .int .i64 k ∧ z = .int .i64 n ∧ A.length + B.length ≤ n ∧ n ≤ 1048576) (fun _ i => B.length - (intOf i).toNat)
      case atStart => exact ⟨0, n + B.length, Nat.zero_le _, rfl, by go_num, by omega, by omega⟩
      case round =>
        clear hn1 hn2 h5 h4 hlt hk h3 h2 h1
        obtain ⟨m, l, hk, rfl, rfl, hn1, hn2⟩ := hrel
        by_cases hlt : m < B.length
        · obtain ⟨bb, off, rfl, _, hcell⟩ := HB.out.resolve_left (by rintro rfl; simp at hlt)
          obtain ⟨x, hx⟩ : ∃ x, B.getD m ByteArray.empty = x := ⟨_, rfl⟩
          have hxs : x.size ≤ 9223372036854775807 := HSB.out x (by rw [← hx]; simp [List.getD, hlt])
          have hck := hcell m hlt
          rw [hx] at hck
          clear hx hcell
          by_cases h4 : x.size ≤ 1048576
          · by_cases h5 : l + x.size ≤ 1048576
            · go_wp2
              go_round
              case rel => exact ⟨m + 1, l + x.size, by omega, by go_num, by go_num, by omega, by omega⟩
              case measure => simp [intOf]; omega
            · go_wp2
              go_ret
              exact ⟨false, rfl, by simp, rfl⟩
          · go_wp2
            go_ret
            exact ⟨false, rfl, by simp, rfl⟩
        · have hAB : A.length + B.length ≤ 1048576 := by omega
          by_cases h4 : id.size ≤ 1048576
          rotate_left
          · go_wp2
            go_ret
            exact ⟨false, rfl, by simp, rfl⟩
          by_cases h5 : l + id.size ≤ 1048576
          rotate_left
          · go_wp2
            go_ret
            exact ⟨false, rfl, by simp, rfl⟩
          by_cases h6 : sha.size ≤ 1048576
          rotate_left
          · go_wp2
            go_ret
            exact ⟨false, rfl, by simp, rfl⟩
          by_cases h7 : l + id.size + sha.size ≤ 1048576
          rotate_left
          · go_wp2
            go_ret
            exact ⟨false, rfl, by simp, rfl⟩
          go_wp2
          go_ret
          exact ⟨true, rfl, fun _ => hAB, rfl⟩
end Go.Proofs.Qxb6618470a
