import Derived.Test.Qxb6618470aBytes
import Derived.Deep.CutBlock
namespace Go.Proofs.Qxb6618470a
open Go.RowKit

theorem Try.info9 : (Try.prog.info? 9).map (fun i => (i.zero, i.size, i.bytes)) = some (some (.string ByteArray.empty), 1, 16) := by kernel_rfl

/-- The cells of a list of strings (a name of its own, so that the walk lets it stand). -/
def U (S : List ByteArray) : List Value := S.map Value.string
theorem U_length (S : List ByteArray) : (U S).length = S.length := by simp [U]
theorem U_snoc (S : List ByteArray) (x : ByteArray) : U (S ++ [x]) = U S ++ [.string x] := by simp [U]

/-- An owned row reads as its strings. -/
theorem reads_own {w : World} {G n c : Nat} {S : List ByteArray} (h : w.ownsRow G 9 1 (.slice (some ⟨G, 0, none⟩) n c) n (U S)) : S.length = n ∧ Reads w.heap.size w (some ⟨G, 0, none⟩) S := by
  have hl : S.length = n := by have := h.1; rw [U_length] at this; omega
  refine ⟨hl, .inr ⟨G, 0, rfl, (h.lt G rfl).2, fun j hj => ?_⟩⟩
  rw [Nat.zero_add, h.cellAt j (by omega)]
  simp [U, List.getD, hj]

/-- One append of 'x', laid in a block of its own, within the room. -/
theorem step {wc wr w' : World} {G k c : Nat} {Y : List ByteArray} {x : ByteArray} {o : Obj} (hG : G ≤ wc.heap.size) (hbel : Below G wc wr) (hown : w'.ownsRow G 9 1 (.slice (some ⟨G, 0, none⟩) (k + 1) c) (k + 1) (U Y ++ [.string x])) (hgr : (wr.alloc o).grownBy w' (some G)) :
    w'.ownsRow G 9 1 (.slice (some ⟨G, 0, none⟩) (k + 1) c) (k + 1) (U (Y ++ [x])) ∧ Below G wc w' := by
  have hs := hbel.size
  refine ⟨by rw [U_snoc]; exact hown, (hbel.alloc (by omega) o).grown hgr (by simp; omega) ?_⟩
  intro k hk
  cases hk
  exact Nat.le_refl _

theorem app_succ (P L : List ByteArray) (k : Nat) (x : ByteArray) (h : k < L.length) (hx : L.getD k ByteArray.empty = x) : P ++ L.take k ++ [x] = P ++ L.take (k + 1) := by
  rw [take_succ L k h, hx, List.append_assoc]

/-- Of the first k strings those that are not 'id'. -/
def rem (S : List ByteArray) (id : ByteArray) (k : Nat) : List ByteArray := (S.take k).filter fun x => !(x.toList == id.toList)
theorem rem_keep (S : List ByteArray) (id x : ByteArray) (k : Nat) (h : k < S.length) (hx : S.getD k ByteArray.empty = x) (hne : (x.toList == id.toList) = false) : rem S id (k + 1) = rem S id k ++ [x] := by
  unfold rem
  rw [take_succ S k h, List.filter_append, hx]
  simp only [List.filter_cons, hne, List.filter_nil, Bool.not_false, if_true]
theorem rem_drop (S : List ByteArray) (id x : ByteArray) (k : Nat) (h : k < S.length) (hx : S.getD k ByteArray.empty = x) (hne : (x.toList == id.toList) = true) : rem S id (k + 1) = rem S id k := by
  unfold rem
  rw [take_succ S k h, List.filter_append, hx]
  simp [hne]
theorem rem_all (S : List ByteArray) (id : ByteArray) : rem S id S.length = S.filter fun x => !(x.toList == id.toList) := by
  unfold rem
  rw [List.take_of_length_le (Nat.le_refl _)]
theorem has_rem (S : List ByteArray) (id : ByteArray) : has (rem S id S.length) id = false := by
  rw [rem_all]
  unfold has
  rw [List.any_eq_false]
  intro x hx
  rw [List.mem_filter] at hx
  simpa using hx.2
theorem rem_len (S : List ByteArray) (id : ByteArray) : has S id = decide (((rem S id S.length).length : Int) < (S.length : Int)) := by
  rw [rem_all]
  have hle := List.length_filter_le (fun x : ByteArray => !(x.toList == id.toList)) S
  have e : (S.filter fun x => !(x.toList == id.toList)).length = S.length ↔ has S id = false := by
    rw [List.length_filter_eq_length_iff]
    unfold has
    rw [List.any_eq_false]
    simp
  cases hb : has S id with
  | true =>
    symm
    rw [decide_eq_true_eq]
    have : (S.filter fun x => !(x.toList == id.toList)).length ≠ S.length := by
      intro h
      rw [e.1 h] at hb
      cases hb
    omega
  | false =>
    have := e.2 hb
    rw [this]
    simp
theorem has_ins (A B : List ByteArray) (id : ByteArray) : has (A ++ [id] ++ B) id = true := by
  rw [has_append, has_append, has_one]
  simp

set_option maxRecDepth 100000 in
set_option maxHeartbeats 2000000 in
theorem main_walk (d id sha : ByteArray) (a b : Option Addr) (A B : List ByteArray) (ca cb : Nat) (w : World) (hla : A.length ≤ 9223372036854775807) (hlb : B.length ≤ 9223372036854775807)
    (hA : Reads w.heap.size w a A) (hB : Reads w.heap.size w b B) (hsum : d.size + id.size + sha.size ≤ 1048576)
    (hsA : ∀ s ∈ A, s.size ≤ 9223372036854775807) (hsB : ∀ s ∈ B, s.size ≤ 9223372036854775807) :
    Calls Try.prog 3 #[.string d, .slice a A.length ca, .slice b B.length cb, .string id, .string sha] w fun e w' => e = .returned (.bool true) ∧ Below w.heap.size w w' := by
  have HBY := bytes_any d id sha a b A B ca cb w hla hlb hA hB (by omega) (by omega) (by omega) hsA hsB
  have HA : Hid (Reads w.heap.size w a A) := hA
  have HB : Hid (Reads w.heap.size w b B) := hB
  have HSA : Hid (∀ s ∈ A, s.size ≤ 9223372036854775807) := hsA
  have HSB : Hid (∀ s ∈ B, s.size ≤ 9223372036854775807) := hsB
  obtain ⟨i0, hi0, hz0, hz1, hz2⟩ := info_parts Try.info9
  clear hA hB hsA hsB
  go_enter Try.func3, Try.ntmps3
  go_wp2_with fail
  refine HBY.mono ?_
  clear HBY
  rintro e w' ⟨r, rfl, hr, rfl⟩
  cases r with
  | false =>
    go_wp2
    go_ret
    exact ⟨rfl, Below.refl _ _⟩
  | true =>
    have hAB : A.length + B.length ≤ 1048576 := hr rfl
    clear hr
    go_upto_block 0 with fail
    go_cut [11] (fun z wr => ∃ n : Nat, z = .int .i64 n ∧ n ≤ 1048576 ∧ w = wr)
    case first =>
      go_wp2
      go_loop [11, 12] (fun z i => ∃ k n : Nat, k ≤ A.length ∧ i = .int .i64 k ∧ z = .int .i64 n ∧ n ≤ 1048576) (fun _ i => A.length - (intOf i).toNat)
      case atStart => exact ⟨0, d.size + id.size + sha.size, Nat.zero_le _, rfl, by go_num, by omega⟩
      case round =>
        obtain ⟨k, n, hk, rfl, rfl, hn2⟩ := hrel
        by_cases hlt : k < A.length
        · obtain ⟨bb, off, rfl, _, hcell⟩ := HA.out.resolve_left (by rintro rfl; simp at hlt)
          obtain ⟨x, hx⟩ : ∃ x, A.getD k ByteArray.empty = x := ⟨_, rfl⟩
          have hxs : x.size ≤ 9223372036854775807 := HSA.out x (by rw [← hx]; simp [List.getD, hlt])
          have hck := hcell k hlt
          rw [hx] at hck
          clear hx hcell
          by_cases h4 : x.size ≤ 1048576
          · by_cases h5 : n + (16 + x.size) ≤ 1048576
            · go_wp2
              go_round
              case rel => exact ⟨k + 1, n + (16 + x.size), by omega, by go_num, by go_num, by omega⟩
              case measure => simp [intOf]; omega
            · go_wp2
              go_ret
              exact ⟨rfl, Below.refl _ _⟩
          · go_wp2
            go_ret
            exact ⟨rfl, Below.refl _ _⟩
        · go_wp2
          go_meet
          case rel => exact ⟨n, rfl, hn2, rfl⟩
    case rest =>
    obtain ⟨n, rfl, hn, rfl⟩ := hcut
    go_upto_block 2 with fail
    go_cut [11] (fun z wr => ∃ m : Nat, z = .int .i64 m ∧ m ≤ 1048576 ∧ w = wr)
    case first =>
      go_wp2
      go_loop [11, 13] (fun z i => ∃ k m : Nat, k ≤ B.length ∧ i = .int .i64 k ∧ z = .int .i64 m ∧ m ≤ 1048576) (fun _ i => B.length - (intOf i).toNat)
      case atStart => exact ⟨0, n, Nat.zero_le _, rfl, by go_num, by omega⟩
      case round =>
        obtain ⟨k, m, hk, rfl, rfl, hn2⟩ := hrel
        by_cases hlt : k < B.length
        · obtain ⟨bb, off, rfl, _, hcell⟩ := HB.out.resolve_left (by rintro rfl; simp at hlt)
          obtain ⟨x, hx⟩ : ∃ x, B.getD k ByteArray.empty = x := ⟨_, rfl⟩
          have hxs : x.size ≤ 9223372036854775807 := HSB.out x (by rw [← hx]; simp [List.getD, hlt])
          have hck := hcell k hlt
          rw [hx] at hck
          clear hx hcell
          by_cases h4 : x.size ≤ 1048576
          · by_cases h5 : m + (16 + x.size) ≤ 1048576
            · go_wp2
              go_round
              case rel => exact ⟨k + 1, m + (16 + x.size), by omega, by go_num, by go_num, by omega⟩
              case measure => simp [intOf]; omega
            · go_wp2
              go_ret
              exact ⟨rfl, Below.refl _ _⟩
          · go_wp2
            go_ret
            exact ⟨rfl, Below.refl _ _⟩
        · go_wp2
          go_meet
          case rel => exact ⟨m, rfl, hn2, rfl⟩
    case rest =>
    obtain ⟨m, rfl, hm, rfl⟩ := hcut
    clear hn hm HSA HSB hsum
    go_wp2_with (at_make; refine wpList_make_own _ rfl _ _ 22 rfl w.heap.size 9 i0 (.string ByteArray.empty) 1 Try.underlying22 hi0 hz0 hz1 _ _ _ (A.length + B.length) rfl rfl (by omega) (by rw [hz2]; omega) (by unfold maxLen; omega) (Nat.le_refl _) ?_)
    intro w1 hown hgr
    have HB1 : Below w.heap.size w w1 := (Below.refl _ _).grown hgr (Nat.le_refl _) (by simp)
    have HO : Hid (w1.ownsRow w.heap.size 9 1 (.slice (some ⟨w.heap.size, 0, none⟩) 0 (A.length + B.length)) 0 (U [])) := hown
    clear hown hgr
    go_upto_block 4 with fail
    go_cut [14] (fun v wr => v = .slice (some ⟨w.heap.size, 0, none⟩) A.length (A.length + B.length) ∧ Hid (wr.ownsRow w.heap.size 9 1 (.slice (some ⟨w.heap.size, 0, none⟩) A.length (A.length + B.length)) A.length (U A)) ∧ Below w.heap.size w wr)
    case first =>
      go_wp2
      go_loopw [14, 15] (fun v j wr => ∃ k : Nat, k ≤ A.length ∧ j = .int .i64 k ∧ v = .slice (some ⟨w.heap.size, 0, none⟩) k (A.length + B.length) ∧ wr.ownsRow w.heap.size 9 1 (.slice (some ⟨w.heap.size, 0, none⟩) k (A.length + B.length)) k (U (A.take k)) ∧ Below w.heap.size w wr)
        (fun _ j _ => A.length - (intOf j).toNat)
      case atStart => exact ⟨0, Nat.zero_le _, rfl, rfl, HO.out, HB1⟩
      case round =>
        obtain ⟨k, hk, rfl, rfl, hown, hbel⟩ := hrel
        by_cases hlt : k < A.length
        · obtain ⟨bb, off, hae, hg, hcell⟩ := HA.out.resolve_left (by rintro h; rw [h] at hlt; simp at hlt)
          subst hae
          obtain ⟨x, hx⟩ : ∃ x, A.getD k ByteArray.empty = x := ⟨_, rfl⟩
          have hcx : wr.cell? ⟨bb, off + k, none⟩ = some (.string x) := by rw [hbel.cell (by exact hg), hcell k (by omega), hx]
          have HX : Hid (A.getD k ByteArray.empty = x) := hx
          clear hx hcell
          go_wp2_with (at_builtin; refine wpList_append_fits _ rfl _ _ 22 rfl w.heap.size 9 i0 1 Try.underlying22 hi0 hz1 _ _ _ _ rfl (hown.alloc _) ⟨wr.heap.size, 0, none⟩ 1 1 [.string x] rfl rfl (cell_one_new _ _ _) (by simp [Value.oneCell']) (by omega) ?_)
          intro w2 hown2 hgr2
          have R := step (Nat.le_refl _) hbel hown2 hgr2
          rw [← HX.out, ← take_succ A k hlt] at R
          have HR : Hid _ := R
          clear hown2 hgr2 R hown hcx
          go_wp2
          go_roundw
          case rel => exact ⟨k + 1, by omega, by go_num, rfl, HR.out.1, HR.out.2⟩
          case measure => simp [intOf]; omega
        · obtain rfl : k = A.length := by omega
          rw [List.take_of_length_le (Nat.le_refl _)] at hown
          have HOW : Hid _ := hown
          clear hown
          go_wp2
          go_meet
          case rel => exact ⟨rfl, HOW.out, hbel⟩
    case rest =>
    clear HB1 HO
    obtain ⟨rfl, HO, HB1⟩ := hcut
    go_upto_block 6 with fail
    go_cut [14] (fun v wr => v = .slice (some ⟨w.heap.size, 0, none⟩) (A.length + B.length) (A.length + B.length) ∧ Hid (wr.ownsRow w.heap.size 9 1 (.slice (some ⟨w.heap.size, 0, none⟩) (A.length + B.length) (A.length + B.length)) (A.length + B.length) (U (A ++ B))) ∧ Below w.heap.size w wr)
    case first =>
      go_wp2
      go_loopw [14, 16] (fun v j wr => ∃ k : Nat, k ≤ B.length ∧ j = .int .i64 k ∧ v = .slice (some ⟨w.heap.size, 0, none⟩) (A.length + k) (A.length + B.length) ∧ wr.ownsRow w.heap.size 9 1 (.slice (some ⟨w.heap.size, 0, none⟩) (A.length + k) (A.length + B.length)) (A.length + k) (U (A ++ B.take k)) ∧ Below w.heap.size w wr)
        (fun _ j _ => B.length - (intOf j).toNat)
      case atStart => exact ⟨0, Nat.zero_le _, rfl, rfl, (by simpa using HO.out), HB1⟩
      case round =>
        obtain ⟨k, hk, rfl, rfl, hown, hbel⟩ := hrel
        by_cases hlt : k < B.length
        · obtain ⟨bb, off, hae, hg, hcell⟩ := HB.out.resolve_left (by rintro h; rw [h] at hlt; simp at hlt)
          subst hae
          obtain ⟨x, hx⟩ : ∃ x, B.getD k ByteArray.empty = x := ⟨_, rfl⟩
          have hcx : wr.cell? ⟨bb, off + k, none⟩ = some (.string x) := by rw [hbel.cell (by exact hg), hcell k (by omega), hx]
          have HX : Hid (B.getD k ByteArray.empty = x) := hx
          clear hx hcell
          go_wp2_with (at_builtin; refine wpList_append_fits _ rfl _ _ 22 rfl w.heap.size 9 i0 1 Try.underlying22 hi0 hz1 _ _ _ _ rfl (hown.alloc _) ⟨wr.heap.size, 0, none⟩ 1 1 [.string x] rfl rfl (cell_one_new _ _ _) (by simp [Value.oneCell']) (by omega) ?_)
          intro w2 hown2 hgr2
          have R := step (Nat.le_refl _) hbel hown2 hgr2
          rw [app_succ A B k x hlt HX.out] at R
          have HR : Hid _ := R
          clear hown2 hgr2 R hown hcx
          go_wp2
          go_roundw
          case rel => exact ⟨k + 1, by omega, by go_num, rfl, HR.out.1, HR.out.2⟩
          case measure => simp [intOf]; omega
        · obtain rfl : k = B.length := by omega
          rw [List.take_of_length_le (Nat.le_refl _)] at hown
          have HOW : Hid _ := hown
          clear hown
          go_wp2
          go_meet
          case rel => exact ⟨rfl, HOW.out, hbel⟩
    case rest =>
    clear HB1 HO
    obtain ⟨rfl, HO, HB1⟩ := hcut
    obtain ⟨wj, hwj⟩ : ∃ x, x = wc := ⟨_, rfl⟩
    subst hwj
    have HJ : Hid (Reads wj.heap.size wj (some ⟨w.heap.size, 0, none⟩) (A ++ B)) := (reads_own HO.out).2
    have HA2 : Hid (Reads wj.heap.size wj a A) := HA.out.below HB1 HB1.size
    have HB2 : Hid (Reads wj.heap.size wj b B) := HB.out.below HB1 HB1.size
    have HBJ : Hid (Below w.heap.size w wj) := HB1
    clear HA HB HB1 HO
    go_wp2_with (at_make; refine wpList_make_own _ rfl _ _ 22 rfl wj.heap.size 9 i0 (.string ByteArray.empty) 1 Try.underlying22 hi0 hz0 hz1 _ _ _ (A.length + B.length + 1) rfl rfl (by omega) (by rw [hz2]; omega) (by unfold maxLen; omega) (Nat.le_refl _) ?_)
    intro w1 hown hgr
    have HB1 : Below wj.heap.size wj w1 := (Below.refl _ _).grown hgr (Nat.le_refl _) (by simp)
    have HO : Hid (w1.ownsRow wj.heap.size 9 1 (.slice (some ⟨wj.heap.size, 0, none⟩) 0 (A.length + B.length + 1)) 0 (U [])) := hown
    clear hown hgr
    go_upto_block 8 with fail
    go_cut [17] (fun v wr => v = .slice (some ⟨wj.heap.size, 0, none⟩) A.length (A.length + B.length + 1) ∧ Hid (wr.ownsRow wj.heap.size 9 1 (.slice (some ⟨wj.heap.size, 0, none⟩) A.length (A.length + B.length + 1)) A.length (U A)) ∧ Below wj.heap.size wj wr)
    case first =>
      go_wp2
      go_loopw [17, 18] (fun v j wr => ∃ k : Nat, k ≤ A.length ∧ j = .int .i64 k ∧ v = .slice (some ⟨wj.heap.size, 0, none⟩) k (A.length + B.length + 1) ∧ wr.ownsRow wj.heap.size 9 1 (.slice (some ⟨wj.heap.size, 0, none⟩) k (A.length + B.length + 1)) k (U (A.take k)) ∧ Below wj.heap.size wj wr)
        (fun _ j _ => A.length - (intOf j).toNat)
      case atStart => exact ⟨0, Nat.zero_le _, rfl, rfl, HO.out, HB1⟩
      case round =>
        obtain ⟨k, hk, rfl, rfl, hown, hbel⟩ := hrel
        by_cases hlt : k < A.length
        · obtain ⟨bb, off, hae, hg, hcell⟩ := HA2.out.resolve_left (by rintro h; rw [h] at hlt; simp at hlt)
          subst hae
          obtain ⟨x, hx⟩ : ∃ x, A.getD k ByteArray.empty = x := ⟨_, rfl⟩
          have hcx : wr.cell? ⟨bb, off + k, none⟩ = some (.string x) := by rw [hbel.cell (by exact hg), hcell k (by omega), hx]
          have HX : Hid (A.getD k ByteArray.empty = x) := hx
          clear hx hcell
          go_wp2_with (at_builtin; refine wpList_append_fits _ rfl _ _ 22 rfl wj.heap.size 9 i0 1 Try.underlying22 hi0 hz1 _ _ _ _ rfl (hown.alloc _) ⟨wr.heap.size, 0, none⟩ 1 1 [.string x] rfl rfl (cell_one_new _ _ _) (by simp [Value.oneCell']) (by omega) ?_)
          intro w2 hown2 hgr2
          have R := step (Nat.le_refl _) hbel hown2 hgr2
          rw [← HX.out, ← take_succ A k hlt] at R
          have HR : Hid _ := R
          clear hown2 hgr2 R hown hcx
          go_wp2
          go_roundw
          case rel => exact ⟨k + 1, by omega, by go_num, rfl, HR.out.1, HR.out.2⟩
          case measure => simp [intOf]; omega
        · obtain rfl : k = A.length := by omega
          rw [List.take_of_length_le (Nat.le_refl _)] at hown
          have HOW : Hid _ := hown
          clear hown
          go_wp2
          go_meet
          case rel => exact ⟨rfl, HOW.out, hbel⟩
    case rest =>
    clear HB1 HO
    obtain ⟨rfl, HO, HB1⟩ := hcut
    obtain ⟨wi, hwi⟩ : ∃ x, x = wc := ⟨_, rfl⟩
    subst hwi
    go_wp2_with (at_builtin; refine wpList_append_fits _ rfl (.tmp 157) (.tmp 159) 22 rfl wj.heap.size 9 i0 1 Try.underlying22 hi0 hz1 _ _ _ _ rfl (HO.out.alloc _) ⟨wi.heap.size, 0, none⟩ 1 1 [.string id] rfl rfl (cell_one_new _ _ _) (by simp [Value.oneCell']) (by omega) ?_)
    intro w2 hown2 hgr2
    have R := step (Nat.le_refl _) HB1 hown2 hgr2
    clear HB1 HO hown2 hgr2
    have HO : Hid (w2.ownsRow wj.heap.size 9 1 (.slice (some ⟨wj.heap.size, 0, none⟩) (A.length + 1) (A.length + B.length + 1)) (A.length + 1) (U (A ++ [id]))) := R.1
    have HB1 := R.2
    clear R
    obtain ⟨P1, hP1⟩ : ∃ P, P = A ++ [id] := ⟨_, rfl⟩
    rw [← hP1] at HO
    have HPE : Hid (P1 = A ++ [id]) := hP1
    clear hP1
    go_upto_block 10 with fail
    go_cut [17] (fun v wr => v = .slice (some ⟨wj.heap.size, 0, none⟩) (A.length + 1 + B.length) (A.length + B.length + 1) ∧ Hid (wr.ownsRow wj.heap.size 9 1 (.slice (some ⟨wj.heap.size, 0, none⟩) (A.length + 1 + B.length) (A.length + B.length + 1)) (A.length + 1 + B.length) (U (P1 ++ B))) ∧ Below wj.heap.size wj wr)
    case first =>
      go_wp2
      go_loopw [17, 19] (fun v j wr => ∃ k : Nat, k ≤ B.length ∧ j = .int .i64 k ∧ v = .slice (some ⟨wj.heap.size, 0, none⟩) (A.length + 1 + k) (A.length + B.length + 1) ∧ wr.ownsRow wj.heap.size 9 1 (.slice (some ⟨wj.heap.size, 0, none⟩) (A.length + 1 + k) (A.length + B.length + 1)) (A.length + 1 + k) (U (P1 ++ B.take k)) ∧ Below wj.heap.size wj wr)
        (fun _ j _ => B.length - (intOf j).toNat)
      case atStart => exact ⟨0, Nat.zero_le _, rfl, rfl, (by simpa using HO.out), HB1⟩
      case round =>
        obtain ⟨k, hk, rfl, rfl, hown, hbel⟩ := hrel
        by_cases hlt : k < B.length
        · obtain ⟨bb, off, hae, hg, hcell⟩ := HB2.out.resolve_left (by rintro h; rw [h] at hlt; simp at hlt)
          subst hae
          obtain ⟨x, hx⟩ : ∃ x, B.getD k ByteArray.empty = x := ⟨_, rfl⟩
          have hcx : wr.cell? ⟨bb, off + k, none⟩ = some (.string x) := by rw [hbel.cell (by exact hg), hcell k (by omega), hx]
          have HX : Hid (B.getD k ByteArray.empty = x) := hx
          clear hx hcell
          go_wp2_with (at_builtin; refine wpList_append_fits _ rfl _ _ 22 rfl wj.heap.size 9 i0 1 Try.underlying22 hi0 hz1 _ _ _ _ rfl (hown.alloc _) ⟨wr.heap.size, 0, none⟩ 1 1 [.string x] rfl rfl (cell_one_new _ _ _) (by simp [Value.oneCell']) (by omega) ?_)
          intro w2 hown2 hgr2
          have R := step (Nat.le_refl _) hbel hown2 hgr2
          rw [app_succ P1 B k x hlt HX.out] at R
          have HR : Hid _ := R
          clear hown2 hgr2 R hown hcx
          go_wp2
          go_roundw
          case rel => exact ⟨k + 1, by omega, by go_num, rfl, HR.out.1, HR.out.2⟩
          case measure => simp [intOf]; omega
        · obtain rfl : k = B.length := by omega
          rw [List.take_of_length_le (Nat.le_refl _)] at hown
          have HOW : Hid _ := hown
          clear hown
          go_wp2
          go_meet
          case rel => exact ⟨rfl, HOW.out, hbel⟩
    case rest =>
    clear HB1 HO
    obtain ⟨rfl, HO, HB1⟩ := hcut
    obtain ⟨wk, hwk⟩ : ∃ x, x = wc := ⟨_, rfl⟩
    subst hwk
    have HI : Hid (Reads wk.heap.size wk (some ⟨wj.heap.size, 0, none⟩) (P1 ++ B)) := (reads_own HO.out).2
    have HA3 : Hid (Reads wk.heap.size wk a A) := HA2.out.below HB1 HB1.size
    have HB3 : Hid (Reads wk.heap.size wk b B) := HB2.out.below HB1 HB1.size
    have HJ3 : Hid (Reads wk.heap.size wk (some ⟨w.heap.size, 0, none⟩) (A ++ B)) := HJ.out.below HB1 HB1.size
    have HBK : Hid (Below w.heap.size w wk) := HBJ.out.trans (HB1.mono HBJ.out.size)
    clear HA2 HB2 HJ HBJ HB1 HO
    obtain ⟨J, hJ⟩ : ∃ J, J = A ++ B := ⟨_, rfl⟩
    rw [← hJ] at HJ3
    have HJL : Hid (J.length = A.length + B.length) := by show _ = _; rw [hJ]; simp
    have HJE : Hid (J = A ++ B) := hJ
    clear hJ
    go_wp2_with (at_make; refine wpList_make_own _ rfl _ _ 22 rfl wk.heap.size 9 i0 (.string ByteArray.empty) 1 Try.underlying22 hi0 hz0 hz1 _ _ _ (A.length + B.length) rfl rfl (by omega) (by rw [hz2]; omega) (by unfold maxLen; omega) (Nat.le_refl _) ?_)
    intro w1 hown hgr
    have HB1 : Below wk.heap.size wk w1 := (Below.refl _ _).grown hgr (Nat.le_refl _) (by simp)
    have HO : Hid (w1.ownsRow wk.heap.size 9 1 (.slice (some ⟨wk.heap.size, 0, none⟩) 0 (A.length + B.length)) 0 (U [])) := hown
    clear hown hgr
    go_upto_block 12 with fail
    go_cut [20] (fun v wr => ∃ r : Nat, r ≤ A.length + B.length ∧ v = .slice (some ⟨wk.heap.size, 0, none⟩) r (A.length + B.length) ∧ Hid ((rem J id J.length).length = r) ∧ Hid (wr.ownsRow wk.heap.size 9 1 (.slice (some ⟨wk.heap.size, 0, none⟩) r (A.length + B.length)) r (U (rem J id J.length))) ∧ Below wk.heap.size wk wr)
    case first =>
      go_wp2
      go_loopw [20, 21] (fun v j wr => ∃ k r : Nat, k ≤ A.length + B.length ∧ r ≤ k ∧ Hid ((rem J id k).length = r) ∧ j = .int .i64 k ∧ v = .slice (some ⟨wk.heap.size, 0, none⟩) r (A.length + B.length) ∧ wr.ownsRow wk.heap.size 9 1 (.slice (some ⟨wk.heap.size, 0, none⟩) r (A.length + B.length)) r (U (rem J id k)) ∧ Below wk.heap.size wk wr)
        (fun _ j _ => A.length + B.length - (intOf j).toNat)
      case atStart => exact ⟨0, 0, Nat.zero_le _, Nat.le_refl _, rfl, rfl, rfl, HO.out, HB1⟩
      case round =>
        obtain ⟨k, r, hk, hrk, HRL, rfl, rfl, hown, hbel⟩ := hrel
        clear HO HB1
        by_cases hlt : k < A.length + B.length
        · have hltJ : k < J.length := by rw [HJL.out]; exact hlt
          obtain ⟨bb, off, hae, hg, hcell⟩ := HJ3.out.resolve_left (by rintro h; rw [h] at hltJ; simp at hltJ)
          have hb0 : w.heap.size = bb ∧ 0 = off := by simpa using hae
          obtain ⟨hb1, hb2⟩ := hb0
          rw [← hb1] at hg
          obtain ⟨x, hx⟩ : ∃ x, J.getD k ByteArray.empty = x := ⟨_, rfl⟩
          have hcx : wr.cell? ⟨w.heap.size, k, none⟩ = some (.string x) := by
            have := hcell k hltJ
            rw [← hb1, ← hb2, Nat.zero_add, hx] at this
            rw [hbel.cell (by exact hg)]; exact this
          have HX : Hid (J.getD k ByteArray.empty = x) := hx
          have HLT : Hid (k < J.length) := hltJ
          clear hx hcell hae hb1 hb2 hltJ bb off
          cases hq : (x.toList == id.toList) with
          | true =>
            have HR2 : Hid (rem J id (k + 1) = rem J id k) := rem_drop J id x k HLT.out HX.out hq
            go_wp2
            go_roundw
            case rel => exact ⟨k + 1, r, by omega, by omega, by rw [HR2.out]; exact HRL, by go_num, rfl, by rw [HR2.out]; exact hown, hbel⟩
            case measure => simp [intOf]; omega
          | false =>
            have HR2 : Hid (rem J id (k + 1) = rem J id k ++ [x]) := rem_keep J id x k HLT.out HX.out hq
            go_wp2_with (at_builtin; refine wpList_append_fits _ rfl _ _ 22 rfl wk.heap.size 9 i0 1 Try.underlying22 hi0 hz1 _ _ _ _ rfl (hown.alloc _) ⟨wr.heap.size, 0, none⟩ 1 1 [.string x] rfl rfl (cell_one_new _ _ _) (by simp [Value.oneCell']) (by omega) ?_)
            intro w2 hown2 hgr2
            have R := step (Nat.le_refl _) hbel hown2 hgr2
            rw [← HR2.out] at R
            have HR : Hid _ := R
            clear hown2 hgr2 R hown hcx
            go_wp2
            go_roundw
            case rel => exact ⟨k + 1, r + 1, by omega, by omega, by show _ = _; rw [HR2.out, List.length_append, HRL.out]; rfl, by go_num, rfl, HR.out.1, HR.out.2⟩
            case measure => simp [intOf]; omega
        · obtain rfl : k = A.length + B.length := by omega
          have HOW : Hid _ := hown
          clear hown
          go_wp2
          go_meet
          case rel => exact ⟨r, hrk, rfl, by rw [HJL.out]; exact HRL, by rw [HJL.out]; exact HOW.out, hbel⟩
    case rest =>
    clear HB1 HO
    obtain ⟨r, hrl, rfl, HRL, HO, HB1⟩ := hcut
    obtain ⟨wz, hwz⟩ : ∃ x, x = wc := ⟨_, rfl⟩
    subst hwz
    have HW4 : Hid (Reads wz.heap.size wz (some ⟨wk.heap.size, 0, none⟩) (rem J id J.length)) := (reads_own HO.out).2
    have HA4 : Hid (Reads wz.heap.size wz a A) := HA3.out.below HB1 HB1.size
    have HB4 : Hid (Reads wz.heap.size wz b B) := HB3.out.below HB1 HB1.size
    have HJ4 : Hid (Reads wz.heap.size wz (some ⟨w.heap.size, 0, none⟩) J) := HJ3.out.below HB1 HB1.size
    have HI4 : Hid (Reads wz.heap.size wz (some ⟨wj.heap.size, 0, none⟩) (P1 ++ B)) := HI.out.below HB1 HB1.size
    have HBZ : Hid (Below w.heap.size w wz) := HBK.out.trans (HB1.mono HBK.out.size)
    have HE1 : Hid (has J id = (has A id || has B id)) := by show _ = _; rw [HJE.out, has_append]
    have HE2 : Hid (has J id = decide ((r : Int) < (A.length : Int) + (B.length : Int))) := by
      show _ = _
      have := rem_len J id
      rw [HRL.out, HJL.out, Int.natCast_add] at this
      exact this
    have HE3 : Hid (has (P1 ++ B) id = true) := by show _ = _; rw [HPE.out]; exact has_ins A B id
    have HE4 : Hid (has (rem J id J.length) id = false) := has_rem J id
    have HPL : Hid ((P1 ++ B).length = A.length + 1 + B.length) := by show _ = _; rw [HPE.out]; simp; omega
    clear HA3 HB3 HJ3 HI HBK HB1 HO HPE HJE
    go_wp2_with fail
    refine (mk_any2 _ _ _ _ _ _).mono ?_
    rintro e x1 ⟨g1, rfl, hg1, hx1⟩
    go_wp2_with fail
    refine (names_any J _ _ _ _ _ id _ HJL.out (by omega) hg1 (HJ4.out.below hx1 hx1.size)).mono ?_
    rintro e w' ⟨rfl, rfl⟩
    have Y1 : Below wz.heap.size wz x1 := hx1
    clear hg1 hx1
    go_wp2_with fail
    refine (mk_any2 _ _ _ _ _ _).mono ?_
    rintro e x2 ⟨g2, rfl, hg2, hx2⟩
    have Y2 : Below wz.heap.size wz x2 := Y1.trans (hx2.mono Y1.size)
    clear Y1
    go_wp2_with fail
    refine (names_any A _ _ _ _ _ id _ rfl (by omega) hg2 (HA4.out.below Y2 Y2.size)).mono ?_
    rintro e w' ⟨rfl, rfl⟩
    clear hg2 hx2
    go_wp2_with fail
    refine (mk_any2 _ _ _ _ _ _).mono ?_
    rintro e x3 ⟨g3, rfl, hg3, hx3⟩
    have Y3 : Below wz.heap.size wz x3 := Y2.trans (hx3.mono Y2.size)
    clear Y2
    go_wp2_with fail
    refine (names_any B _ _ _ _ _ id _ rfl (by omega) hg3 (HB4.out.below Y3 Y3.size)).mono ?_
    rintro e w' ⟨rfl, rfl⟩
    clear hg3 hx3
    go_wp2_with fail
    refine (mk_any2 _ _ _ _ _ _).mono ?_
    rintro e x4 ⟨g4, rfl, hg4, hx4⟩
    have Y4 : Below wz.heap.size wz x4 := Y3.trans (hx4.mono Y3.size)
    clear Y3
    go_wp2_with fail
    refine (names_any (P1 ++ B) _ _ _ _ _ id _ HPL.out (by omega) hg4 (HI4.out.below Y4 Y4.size)).mono ?_
    rintro e w' ⟨rfl, rfl⟩
    clear hg4 hx4
    rw [HE3.out]
    go_wp2_with fail
    refine (mk_any2 _ _ _ _ _ _).mono ?_
    rintro e x5 ⟨g5, rfl, hg5, hx5⟩
    have Y5 : Below wz.heap.size wz x5 := Y4.trans (hx5.mono Y4.size)
    clear Y4
    go_wp2_with fail
    refine (names_any (rem J id J.length) _ _ _ _ _ id _ HRL.out (by omega) hg5 (HW4.out.below Y5 Y5.size)).mono ?_
    rintro e w' ⟨rfl, rfl⟩
    clear hg5 hx5
    rw [HE4.out]
    have HBE : Hid (Below w.heap.size w x5) := HBZ.out.trans (Y5.mono HBZ.out.size)
    clear HE3 HE4 HPL HW4 HA4 HB4 HJ4 HI4 HBZ Y5 HRL HJL
    generalize has J id = bj at *
    generalize has A id = ba at *
    generalize has B id = bb at *
    generalize hq : decide ((r : Int) < (A.length : Int) + (B.length : Int)) = q at *
    cases ba <;> cases bb <;> cases bj <;> cases q
    all_goals first
      | (exfalso; have := HE1.out; simp at this; done)
      | (exfalso; have := HE2.out; simp at this; done)
      | (go_wp2; go_ret; exact ⟨rfl, HBE.out⟩)
end Go.Proofs.Qxb6618470a
