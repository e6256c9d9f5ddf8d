import Derived.Test.Qxb6618470aRows
import Derived.WalkKit
import Derived.ProofKit
import Derived.OpenShut
import Derived.WalkLawsBesides
import Derived.SliceStrings
import Derived.Below
import Derived.Deep.DeepCutAuto
import Derived.Handy
import Derived.WalkSpells
namespace Go.Proofs.Qxb6618470a
open Go.RowKit

/-- Is the string 'id' among S? (A name of its own, so that the walk lets it stand.) -/
def has (S : List ByteArray) (id : ByteArray) : Bool := S.any fun x => x.toList == id.toList

/-- The slice at 'a' reads, from its head on, as the strings S; it lies below block B. -/
def Reads (B : Nat) (w : World) (a : Option Addr) (S : List ByteArray) : Prop :=
  S = [] ∨ ∃ b off, a = some ⟨b, off, none⟩ ∧ b < B ∧ ∀ j, j < S.length → w.cell? ⟨b, off + j, none⟩ = some (.string (S.getD j ByteArray.empty))

theorem Reads.below {B B' : Nat} {w w' : World} {a : Option Addr} {S : List ByteArray} (h : Reads B w a S) (hb : Below B w w') (hB : B ≤ B') : Reads B' w' a S :=
  h.imp_right fun ⟨b, off, ha, hlt, hc⟩ => ⟨b, off, ha, by omega, fun j hj => by rw [hb.cell (show b < B by omega)]; exact hc j hj⟩

theorem has_append (A B : List ByteArray) (id : ByteArray) : has (A ++ B) id = (has A id || has B id) := by
  simp [has]
theorem has_one (x id : ByteArray) : has [x] id = (x.toList == id.toList) := by simp [has]

theorem take_succ (S : List ByteArray) (k : Nat) (h : k < S.length) : S.take (k + 1) = S.take k ++ [S.getD k ByteArray.empty] := by
  rw [List.take_succ_eq_append_getElem h]
  simp [List.getD, h]

theorem has_take_succ (S : List ByteArray) (id x : ByteArray) (k : Nat) (h : k < S.length) (hx : S.getD k ByteArray.empty = x) (h0 : has (S.take k) id = false) (h1 : (x.toList == id.toList) = false) : has (S.take (k + 1)) id = false := by
  rw [take_succ S k h, has_append, h0, hx, has_one, h1]
  rfl

theorem has_hit (S : List ByteArray) (id x : ByteArray) (k : Nat) (h : k < S.length) (hx : S.getD k ByteArray.empty = x) (h1 : (x.toList == id.toList) = true) : has S id = true := by
  have e : S = S.take (k + 1) ++ S.drop (k + 1) := (List.take_append_drop _ _).symm
  rw [e, has_append, take_succ S k h, has_append, hx, has_one, h1]
  simp

theorem ret_bool {a b : Bool} (h : a = b) : Ending.returned (.bool a) = .returned (.bool b) := by rw [h]

set_option maxRecDepth 100000 in
set_option maxHeartbeats 400000 in
theorem names_some (S : List ByteArray) (g b off cap : Nat) (id : ByteArray) (w : World) (hl : S.length ≤ 9223372036854775807)
    (hg : w.cell? ⟨g, 3, none⟩ = some (.slice (some ⟨b, off, none⟩) S.length cap)) (hc : ∀ j, j < S.length → w.cell? ⟨b, off + j, none⟩ = some (.string (S.getD j ByteArray.empty))) :
    Calls Try.prog 6 #[.pointer (some ⟨g, 0, none⟩), .string id] w fun e w' => e = .returned (.bool (has S id)) ∧ w = w' := by
  have HC : Hid (∀ j, j < S.length → w.cell? ⟨b, off + j, none⟩ = some (.string (S.getD j ByteArray.empty))) := hc
  clear hc
  go_enter Try.func6, Try.ntmps6
  go_wp2
  go_loop [12] (fun i => ∃ k : Nat, k ≤ S.length ∧ i = .int .i64 k ∧ has (S.take k) id = false) (fun i => S.length - (intOf i).toNat)
  case atStart => exact ⟨0, Nat.zero_le _, rfl, rfl⟩
  case round =>
    obtain ⟨k, hk, rfl, hno⟩ := hrel
    have HN : Hid (has (S.take k) id = false) := hno
    clear hno
    by_cases hlt : k < S.length
    · obtain ⟨x, hx⟩ : ∃ x, S.getD k ByteArray.empty = x := ⟨_, rfl⟩
      have hck := HC.out k hlt
      rw [hx] at hck
      have HX : Hid (S.getD k ByteArray.empty = x) := hx
      clear hx
      cases hq : (x.toList == id.toList) with
      | true =>
        have HH : Hid (has S id = true) := has_hit S id x k hlt HX.out hq
        go_wp2
        go_ret
        exact ⟨ret_bool HH.out.symm, rfl⟩
      | false =>
        have HH : Hid (has (S.take (k + 1)) id = false) := has_take_succ S id x k hlt HX.out HN.out hq
        go_wp2
        go_round
        case rel => exact ⟨k + 1, by omega, by go_num, HH.out⟩
        case measure => simp [intOf]; omega
    · go_wp2
      go_ret
      exact ⟨ret_bool (by have := HN.out; rw [List.take_of_length_le (by omega)] at this; exact this.symm), rfl⟩

theorem names_nil (a : Option Addr) (g cap : Nat) (id : ByteArray) (w : World) (hg : w.cell? ⟨g, 3, none⟩ = some (.slice a 0 cap)) :
    Calls Try.prog 6 #[.pointer (some ⟨g, 0, none⟩), .string id] w fun e w' => e = .returned (.bool (has [] id)) ∧ w = w' := by
  go_enter Try.func6, Try.ntmps6
  go_wp2
  refine wp_loop_rounds 1 ?_
  rw [rounds_succ]
  go_wp2
  go_ret
  exact ⟨rfl, rfl⟩

/-- 'NamesFeature': is the id among the catalogue's features? -/
theorem names_any (S : List ByteArray) (a : Option Addr) (B g n cap : Nat) (id : ByteArray) (w : World) (hn : S.length = n) (hl : n ≤ 9223372036854775807)
    (hg : w.cell? ⟨g, 3, none⟩ = some (.slice a n cap)) (hr : Reads B w a S) :
    Calls Try.prog 6 #[.pointer (some ⟨g, 0, none⟩), .string id] w fun e w' => e = .returned (.bool (has S id)) ∧ w = w' := by
  subst hn
  rcases hr with rfl | ⟨b, off, rfl, _, hc⟩
  · exact names_nil a g cap id w hg
  · exact names_some S g b off cap id w hl hg hc

/-- 'mkCatalog': a new block of five cells. -/
theorem mk_any (d s : ByteArray) (a : Option Addr) (n cap : Nat) (w : World) :
    Calls Try.prog 5 #[.string d, .slice a n cap, .string s] w fun e w' => e = .returned (.pointer (some ⟨w.heap.size, 0, none⟩)) ∧ w.alloc (.cells #[.string d, .map none, .map none, .slice a n cap, .string s] 30) = w' := by
  go_enter Try.func5, Try.ntmps5
  go_wp2
  go_ret
  exact ⟨rfl, rfl⟩

theorem mk_any2 (d s : ByteArray) (a : Option Addr) (n cap : Nat) (w : World) :
    Calls Try.prog 5 #[.string d, .slice a n cap, .string s] w fun e w' => ∃ g, e = .returned (.pointer (some ⟨g, 0, none⟩)) ∧ w'.cell? ⟨g, 3, none⟩ = some (.slice a n cap) ∧ Below w.heap.size w w' := by
  refine (mk_any d s a n cap w).mono ?_
  rintro e w' ⟨rfl, rfl⟩
  exact ⟨_, rfl, by simp, (Below.refl _ _).alloc (Nat.le_refl _) _⟩
end Go.Proofs.Qxb6618470a
