import Derived.Test.Qxb6618469aRows
import Derived.WalkKit
import Derived.ProofKit
import Derived.OpenShut
import Derived.WalkLawsBesides
import Derived.Laws.CopyOwn
import Derived.Below
namespace Go.Proofs.Qxb6618469a
open Go.RowKit

/-- Is 'key' among Z? (A name of its own, so that the walk lets it stand.) -/
def has (Z : List Int) (key : Int) : Bool := Z.contains key

/-- The slice at 'a' reads, from its head on, as the numbers Z. -/
def Reads (w : World) (a : Option Addr) (Z : List Int) : Prop :=
  Z = [] ∨ ∃ b off, a = some ⟨b, off, none⟩ ∧ ∀ j, j < Z.length → w.cell? ⟨b, off + j, none⟩ = some (.int .u64 (Z.getD j 0))

theorem has_append (A B : List Int) (key : Int) : has (A ++ B) key = (has A key || has B key) := by
  unfold has
  rw [Bool.eq_iff_iff]
  simp

theorem has_cons (x : Int) (B : List Int) (key : Int) : has (x :: B) key = ((x == key) || has B key) := by
  unfold has
  rw [List.contains_cons, Bool.beq_comm]

theorem take_succ (Z : List Int) (k : Nat) (h : k < Z.length) : Z.take (k + 1) = Z.take k ++ [Z.getD k 0] := by
  rw [List.take_succ_eq_append_getElem h]
  simp [List.getD, h]

theorem has_take_succ (Z : List Int) (key x : Int) (k : Nat) (h : k < Z.length) (hx : Z.getD k 0 = x) (h0 : has (Z.take k) key = false) (h1 : (x == key) = false) : has (Z.take (k + 1)) key = false := by
  rw [take_succ Z k h, has_append, h0, hx, has_cons, h1]
  rfl

theorem has_hit (Z : List Int) (key x : Int) (k : Nat) (h : k < Z.length) (hx : Z.getD k 0 = x) (h1 : (x == key) = true) : has Z key = true := by
  have e : Z = Z.take (k + 1) ++ Z.drop (k + 1) := (List.take_append_drop _ _).symm
  rw [e, has_append, take_succ Z k h, has_append, hx, has_cons, h1]
  simp

theorem ret_bool {a b : Bool} (h : a = b) : Ending.returned (.bool a) = .returned (.bool b) := by rw [h]

set_option maxHeartbeats 400000 in
theorem named_some (Z : List Int) (b off cap : Nat) (key : Int) (w : World) (hl : Z.length ≤ 9223372036854775807) (hc : ∀ j, j < Z.length → w.cell? ⟨b, off + j, none⟩ = some (.int .u64 (Z.getD j 0))) :
    Calls Try.prog 8 #[.slice (some ⟨b, off, none⟩) Z.length cap, .int .u64 key] w fun e w' => e = .returned (.bool (has Z key)) ∧ w = w' := by
  have HC : Hid (∀ j, j < Z.length → w.cell? ⟨b, off + j, none⟩ = some (.int .u64 (Z.getD j 0))) := hc
  clear hc
  go_enter Try.func8, Try.ntmps8
  go_wp2
  go_loop [9] (fun i => ∃ k : Nat, k ≤ Z.length ∧ i = .int .i64 k ∧ has (Z.take k) key = false) (fun i => Z.length - (intOf i).toNat)
  case atStart => exact ⟨0, Nat.zero_le _, rfl, by simp [has]⟩
  case round =>
    obtain ⟨k, hk, rfl, hno⟩ := hrel
    have HN : Hid (has (Z.take k) key = false) := hno
    clear hno
    by_cases hlt : k < Z.length
    · obtain ⟨x, hx⟩ : ∃ x, Z.getD k 0 = x := ⟨_, rfl⟩
      have hck := HC.out k hlt
      rw [hx] at hck
      have HX : Hid (Z.getD k 0 = x) := hx
      clear hx
      cases hq : (x == key) with
      | true =>
        have HH : Hid (has Z key = true) := has_hit Z key x k hlt HX.out hq
        go_wp2
        go_ret
        exact ⟨ret_bool HH.out.symm, rfl⟩
      | false =>
        have HH : Hid (has (Z.take (k + 1)) key = false) := has_take_succ Z key x k hlt HX.out HN.out hq
        go_wp2
        go_round
        case rel => exact ⟨k + 1, by omega, by go_num, HH.out⟩
        case measure => simp [intOf]; omega
    · go_wp2
      go_ret
      exact ⟨ret_bool (by have := HN.out; rw [List.take_of_length_le (by omega)] at this; exact this.symm), rfl⟩

theorem named_nil (a : Option Addr) (cap : Nat) (key : Int) (w : World) :
    Calls Try.prog 8 #[.slice a 0 cap, .int .u64 key] w fun e w' => e = .returned (.bool (has [] key)) ∧ w = w' := by
  go_enter Try.func8, Try.ntmps8
  go_wp2
  refine wp_loop_rounds 1 ?_
  rw [rounds_succ]
  go_wp2
  go_ret
  exact ⟨rfl, rfl⟩

theorem named_any (Z : List Int) (a : Option Addr) (n cap : Nat) (key : Int) (w : World) (hn : Z.length = n) (hl : n ≤ 9223372036854775807) (hr : Reads w a Z) :
    Calls Try.prog 8 #[.slice a n cap, .int .u64 key] w fun e w' => e = .returned (.bool (has Z key)) ∧ w = w' := by
  subst hn
  rcases hr with rfl | ⟨b, off, rfl, hc⟩
  · exact named_nil a cap key w
  · exact named_some Z b off cap key w hl hc

/-- 'ZZnamed' passes on. -/
theorem zznamed (Z : List Int) (a : Option Addr) (n cap : Nat) (key : Int) (w : World) (hn : Z.length = n) (hl : n ≤ 9223372036854775807) (hr : Reads w a Z) :
    Calls Try.prog 6 #[.slice a n cap, .int .u64 key] w fun e w' => e = .returned (.bool (has Z key)) ∧ w = w' := by
  have H := named_any Z a n cap key w hn hl hr
  clear hn hl hr
  go_enter Try.func6, Try.ntmps6
  go_wp2_with fail
  refine H.mono ?_
  rintro e w' ⟨rfl, rfl⟩
  go_wp2
  go_ret
  exact ⟨rfl, rfl⟩

/-- 'zzBytes': is the length at most 1 << 20? -/
theorem bytes5 (a : Option Addr) (n cap : Nat) (k o p i : Int) (w : World) (hl : n ≤ 9223372036854775807) :
    Calls Try.prog 5 #[.slice a n cap, .int .u64 k, .int .u64 o, .int .i64 p, .int .i64 i] w fun e w' => e = .returned (.bool (decide (n ≤ 1048576))) ∧ w = w' := by
  by_cases h : n ≤ 1048576
  · have h1 : ¬ (1048576 : Int) < n := by omega
    go_enter Try.func5, Try.ntmps5
    go_wp2
    go_ret
    exact ⟨ret_bool (by simp), rfl⟩
  · have h1 : (1048576 : Int) < n := by omega
    go_enter Try.func5, Try.ntmps5
    go_wp2
    go_ret
    exact ⟨ret_bool (by simp [h]), rfl⟩

theorem bytes7 (a : Option Addr) (n cap : Nat) (k o : Int) (w : World) (hl : n ≤ 9223372036854775807) :
    Calls Try.prog 7 #[.slice a n cap, .int .u64 k, .int .u64 o] w fun e w' => e = .returned (.bool (decide (n ≤ 1048576))) ∧ w = w' := by
  by_cases h : n ≤ 1048576
  · have h1 : ¬ (1048576 : Int) < n := by omega
    go_enter Try.func7, Try.ntmps7
    go_wp2
    go_ret
    exact ⟨ret_bool (by simp), rfl⟩
  · have h1 : (1048576 : Int) < n := by omega
    go_enter Try.func7, Try.ntmps7
    go_wp2
    go_ret
    exact ⟨ret_bool (by simp [h]), rfl⟩
end Go.Proofs.Qxb6618469a
