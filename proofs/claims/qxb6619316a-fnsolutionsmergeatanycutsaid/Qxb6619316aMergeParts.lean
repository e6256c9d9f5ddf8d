/-
  FnSolutionsMergeAtAnyCut: its size check, maxF, minF, and what its walk wants.
-/
import Derived.Test.Qxb6619316aBoundParts
namespace Go.Proofs.Qxb6619316a
open Go.RowKit
open Fl (fmax fmin Num sv ng C omax omin mrgTo mrg accTo sol colTo nanTo)

set_option maxRecDepth 100000 in
set_option maxHeartbeats 1000000 in
theorem bytes7 (Z : List (List Nat)) (a : Option Addr) (N cap : Nat) (m : Int) (A : Nat → Option Addr) (cp : Nat → Nat) (w : World) (hN : Z.length = N) (hl : N ≤ 9223372036854775807) (hrl : ∀ i, i < N → (Z.getD i []).length ≤ 9223372036854775807) (hG : CameRows w a N A cp Z) :
    Calls Try.prog 7 #[.slice a N cap, .int .i64 m] w fun e w' => Same0 w e w' := by
  have HG : Hid (CameRows w a N A cp Z) := hG
  have HN : Hid (Z.length = N) := hN
  have HRL : Hid (∀ i, i < N → (Z.getD i []).length ≤ 9223372036854775807) := hrl
  clear hG hN hrl
  by_cases h1 : N ≤ 1048576
  rotate_left
  · go_enter Try.func7, Try.ntmps7
    go_wp2
    go_ret
    exact ⟨false, rfl, rfl⟩
  go_enter Try.func7, Try.ntmps7
  go_wp2
  go_loop [5, 6] (fun z t => ∃ k n : Nat, k ≤ N ∧ t = .int .i64 k ∧ z = .int .i64 n ∧ n ≤ 1048576) (fun _ t => N - (intOf t).toNat)
  case atStart => exact ⟨0, N, Nat.zero_le _, rfl, rfl, h1⟩
  case round =>
    obtain ⟨k, n, hk, rfl, rfl, hn⟩ := hrel
    by_cases hlt : k < N
    · obtain ⟨b, off, rfl, hgr⟩ := HG.out.resolve_left (by rintro e; have := HN.out; rw [e] at this; simp at this; omega)
      have hc := hgr.cell k hlt
      have hr := HRL.out k hlt
      generalize (Z.getD k []).length = L at *
      generalize A k = ar at *
      generalize cp k = cr at *
      clear hgr
      by_cases h4 : L ≤ 1048576
      · by_cases h5 : n + L ≤ 1048576
        · go_wp2
          go_round
          case rel => exact ⟨k + 1, n + L, by omega, by go_num, by go_num, by omega⟩
          case measure => simp [intOf]; omega
        · go_wp2
          go_ret
          exact ⟨false, rfl, rfl⟩
      · go_wp2
        go_ret
        exact ⟨false, rfl, rfl⟩
    · go_wp2
      go_ret
      exact ⟨true, rfl, rfl⟩

/-- What maxF and minF leave. -/
def PickD (f : Option Int → Option Int → Option Int) (x y : Nat) (w : World) (e : Ending) (w' : World) : Prop := ∃ z, e = .returned (.float .f64 z) ∧ C z = f (C x) (C y) ∧ w = w'

theorem mx_l {x y : Nat} (hx : Num x) (hy : Num y) (h : sv y < sv x) : C x = omax (C x) (C y) := by
  rw [Fl.C_num hx, Fl.C_num hy]
  simp only [omax, Option.some.injEq]
  split <;> split <;> split <;> omega
theorem mx_r {x y : Nat} (hx : Num x) (hy : Num y) (h : sv x < sv y) : C y = omax (C x) (C y) := by
  rw [Fl.C_num hx, Fl.C_num hy]
  simp only [omax, Option.some.injEq]
  split <;> split <;> split <;> omega
theorem mx_n {x y : Nat} (hx : Num x) (hy : Num y) (h : sv x = sv y) (hn : ng x = true) : C y = omax (C x) (C y) := by
  rw [Fl.C_num hx, Fl.C_num hy, hn, h]
  simp only [omax, Option.some.injEq, if_true]
  split <;> split <;> omega
theorem mx_p {x y : Nat} (hx : Num x) (hy : Num y) (h : sv x = sv y) (hn : ng x = false) : C x = omax (C x) (C y) := by
  rw [Fl.C_num hx, Fl.C_num hy, hn, h]
  simp only [omax, Option.some.injEq, if_false, Bool.false_eq_true]
  split <;> split <;> omega
theorem mn_l {x y : Nat} (hx : Num x) (hy : Num y) (h : sv x < sv y) : C x = omin (C x) (C y) := by
  rw [Fl.C_num hx, Fl.C_num hy]
  simp only [omin, Option.some.injEq]
  split <;> split <;> split <;> omega
theorem mn_r {x y : Nat} (hx : Num x) (hy : Num y) (h : sv y < sv x) : C y = omin (C x) (C y) := by
  rw [Fl.C_num hx, Fl.C_num hy]
  simp only [omin, Option.some.injEq]
  split <;> split <;> split <;> omega
theorem mn_n {x y : Nat} (hx : Num x) (hy : Num y) (h : sv x = sv y) (hn : ng x = true) : C x = omin (C x) (C y) := by
  rw [Fl.C_num hx, Fl.C_num hy, hn, h]
  simp only [omin, Option.some.injEq, if_true]
  split <;> split <;> omega
theorem mn_p {x y : Nat} (hx : Num x) (hy : Num y) (h : sv x = sv y) (hn : ng x = false) : C y = omin (C x) (C y) := by
  rw [Fl.C_num hx, Fl.C_num hy, hn, h]
  simp only [omin, Option.some.injEq, if_false, Bool.false_eq_true]
  split <;> split <;> omega
theorem pick_nx {x y : Nat} (hx : ¬ Num x) : C x = omax (C x) (C y) ∧ C x = omin (C x) (C y) := by rw [Fl.C_nan hx]; exact ⟨rfl, rfl⟩
theorem pick_ny {x y : Nat} (hy : ¬ Num y) : C y = omax (C x) (C y) ∧ C y = omin (C x) (C y) := by rw [Fl.C_nan hy, Fl.omax_none_r, Fl.omin_none_r]; exact ⟨rfl, rfl⟩

set_option maxRecDepth 100000 in
set_option maxHeartbeats 1000000 in
theorem maxF_any (x y : Nat) (w : World) : Calls Try.prog 10 #[.float .f64 x, .float .f64 y] w fun e w' => PickD omax x y w e w' := by
  by_cases hx : Num x
  · have ex := isN_num hx
    by_cases hy : Num y
    · have ey := isN_num hy
      have q1 := gt_b hx hy
      have q2 := gt_b hy hx
      by_cases c1 : sv y < sv x
      · rw [decide_eq_true c1] at q1
        have HC : Hid (C x = omax (C x) (C y)) := mx_l hx hy c1
        clear q2
        go_enter Try.func10, Try.ntmps10
        go_wp2_with fail
        refine (nan_any x _).mono ?_
        rintro e w' ⟨rfl, rfl⟩
        rw [ex]
        go_wp2_with fail
        refine (nan_any y _).mono ?_
        rintro e w' ⟨rfl, rfl⟩
        rw [ey]
        go_wp2
        go_ret
        exact ⟨x, rfl, HC.out, rfl⟩
      · rw [decide_eq_false c1] at q1
        by_cases c2 : sv x < sv y
        · rw [decide_eq_true c2] at q2
          have HC : Hid (C y = omax (C x) (C y)) := mx_r hx hy c2
          go_enter Try.func10, Try.ntmps10
          go_wp2_with fail
          refine (nan_any x _).mono ?_
          rintro e w' ⟨rfl, rfl⟩
          rw [ex]
          go_wp2_with fail
          refine (nan_any y _).mono ?_
          rintro e w' ⟨rfl, rfl⟩
          rw [ey]
          go_wp2
          go_ret
          exact ⟨y, rfl, HC.out, rfl⟩
        · rw [decide_eq_false c2] at q2
          cases hg : ng x with
          | true =>
            have HC : Hid (C y = omax (C x) (C y)) := mx_n hx hy (by omega) hg
            go_enter Try.func10, Try.ntmps10
            go_wp2_with fail
            refine (nan_any x _).mono ?_
            rintro e w' ⟨rfl, rfl⟩
            rw [ex]
            go_wp2_with fail
            refine (nan_any y _).mono ?_
            rintro e w' ⟨rfl, rfl⟩
            rw [ey]
            go_wp2_with fail
            refine (neg_any x hx _).mono ?_
            rintro e w' ⟨rfl, rfl⟩
            rw [hg]
            go_wp2
            go_ret
            exact ⟨y, rfl, HC.out, rfl⟩
          | false =>
            have HC : Hid (C x = omax (C x) (C y)) := mx_p hx hy (by omega) hg
            go_enter Try.func10, Try.ntmps10
            go_wp2_with fail
            refine (nan_any x _).mono ?_
            rintro e w' ⟨rfl, rfl⟩
            rw [ex]
            go_wp2_with fail
            refine (nan_any y _).mono ?_
            rintro e w' ⟨rfl, rfl⟩
            rw [ey]
            go_wp2_with fail
            refine (neg_any x hx _).mono ?_
            rintro e w' ⟨rfl, rfl⟩
            rw [hg]
            go_wp2
            go_ret
            exact ⟨x, rfl, HC.out, rfl⟩
    · have ey := isN_nan hy
      have HC : Hid (C y = omax (C x) (C y)) := (pick_ny hy).1
      go_enter Try.func10, Try.ntmps10
      go_wp2_with fail
      refine (nan_any x _).mono ?_
      rintro e w' ⟨rfl, rfl⟩
      rw [ex]
      go_wp2_with fail
      refine (nan_any y _).mono ?_
      rintro e w' ⟨rfl, rfl⟩
      rw [ey]
      go_wp2
      go_ret
      exact ⟨y, rfl, HC.out, rfl⟩
  · have ex := isN_nan hx
    have HC : Hid (C x = omax (C x) (C y)) := (pick_nx hx).1
    go_enter Try.func10, Try.ntmps10
    go_wp2_with fail
    refine (nan_any x _).mono ?_
    rintro e w' ⟨rfl, rfl⟩
    rw [ex]
    go_wp2
    go_ret
    exact ⟨x, rfl, HC.out, rfl⟩

set_option maxRecDepth 100000 in
set_option maxHeartbeats 1000000 in
theorem minF_any (x y : Nat) (w : World) : Calls Try.prog 11 #[.float .f64 x, .float .f64 y] w fun e w' => PickD omin x y w e w' := by
  by_cases hx : Num x
  · have ex := isN_num hx
    by_cases hy : Num y
    · have ey := isN_num hy
      have q1 := lt_b hx hy
      have q2 := lt_b hy hx
      by_cases c1 : sv x < sv y
      · rw [decide_eq_true c1] at q1
        have HC : Hid (C x = omin (C x) (C y)) := mn_l hx hy c1
        clear q2
        go_enter Try.func11, Try.ntmps11
        go_wp2_with fail
        refine (nan_any x _).mono ?_
        rintro e w' ⟨rfl, rfl⟩
        rw [ex]
        go_wp2_with fail
        refine (nan_any y _).mono ?_
        rintro e w' ⟨rfl, rfl⟩
        rw [ey]
        go_wp2
        go_ret
        exact ⟨x, rfl, HC.out, rfl⟩
      · rw [decide_eq_false c1] at q1
        by_cases c2 : sv y < sv x
        · rw [decide_eq_true c2] at q2
          have HC : Hid (C y = omin (C x) (C y)) := mn_r hx hy c2
          go_enter Try.func11, Try.ntmps11
          go_wp2_with fail
          refine (nan_any x _).mono ?_
          rintro e w' ⟨rfl, rfl⟩
          rw [ex]
          go_wp2_with fail
          refine (nan_any y _).mono ?_
          rintro e w' ⟨rfl, rfl⟩
          rw [ey]
          go_wp2
          go_ret
          exact ⟨y, rfl, HC.out, rfl⟩
        · rw [decide_eq_false c2] at q2
          cases hg : ng x with
          | true =>
            have HC : Hid (C x = omin (C x) (C y)) := mn_n hx hy (by omega) hg
            go_enter Try.func11, Try.ntmps11
            go_wp2_with fail
            refine (nan_any x _).mono ?_
            rintro e w' ⟨rfl, rfl⟩
            rw [ex]
            go_wp2_with fail
            refine (nan_any y _).mono ?_
            rintro e w' ⟨rfl, rfl⟩
            rw [ey]
            go_wp2_with fail
            refine (neg_any x hx _).mono ?_
            rintro e w' ⟨rfl, rfl⟩
            rw [hg]
            go_wp2
            go_ret
            exact ⟨x, rfl, HC.out, rfl⟩
          | false =>
            have HC : Hid (C y = omin (C x) (C y)) := mn_p hx hy (by omega) hg
            go_enter Try.func11, Try.ntmps11
            go_wp2_with fail
            refine (nan_any x _).mono ?_
            rintro e w' ⟨rfl, rfl⟩
            rw [ex]
            go_wp2_with fail
            refine (nan_any y _).mono ?_
            rintro e w' ⟨rfl, rfl⟩
            rw [ey]
            go_wp2_with fail
            refine (neg_any x hx _).mono ?_
            rintro e w' ⟨rfl, rfl⟩
            rw [hg]
            go_wp2
            go_ret
            exact ⟨y, rfl, HC.out, rfl⟩
    · have ey := isN_nan hy
      have HC : Hid (C y = omin (C x) (C y)) := (pick_ny hy).2
      go_enter Try.func11, Try.ntmps11
      go_wp2_with fail
      refine (nan_any x _).mono ?_
      rintro e w' ⟨rfl, rfl⟩
      rw [ex]
      go_wp2_with fail
      refine (nan_any y _).mono ?_
      rintro e w' ⟨rfl, rfl⟩
      rw [ey]
      go_wp2
      go_ret
      exact ⟨y, rfl, HC.out, rfl⟩
  · have ex := isN_nan hx
    have HC : Hid (C x = omin (C x) (C y)) := (pick_nx hx).2
    go_enter Try.func11, Try.ntmps11
    go_wp2_with fail
    refine (nan_any x _).mono ?_
    rintro e w' ⟨rfl, rfl⟩
    rw [ex]
    go_wp2
    go_ret
    exact ⟨x, rfl, HC.out, rfl⟩

/-! ### the rows behind a cut -/
theorem getD_drop (Z : List (List Nat)) (m i : Nat) : (Z.drop m).getD i [] = Z.getD (m + i) [] := by simp [List.getD]
theorem getD_take (Z : List (List Nat)) (m i : Nat) (h : i < m) : (Z.take m).getD i [] = Z.getD i [] := by simp [List.getD, h]
theorem Grid.take {B0 : Nat} {w : World} {b off N : Nat} {A : Nat → Option Addr} {cp : Nat → Nat} {Z : List (List Nat)} (h : Grid B0 w b off N A cp Z) (m : Nat) (hm : m ≤ N) : Grid B0 w b off m A cp (Z.take m) :=
  ⟨h.lt, fun i hi => by rw [getD_take Z m i hi]; exact h.cell i (by omega), fun i hi => by rw [getD_take Z m i hi]; exact h.row i (by omega), fun i hi => by rw [getD_take Z m i hi]; exact h.nil i (by omega)⟩
theorem Grid.drop {B0 : Nat} {w : World} {b off N : Nat} {A : Nat → Option Addr} {cp : Nat → Nat} {Z : List (List Nat)} (h : Grid B0 w b off N A cp Z) (m : Nat) (hm : m ≤ N) : Grid B0 w b (off + m) (N - m) (fun i => A (m + i)) (fun i => cp (m + i)) (Z.drop m) :=
  ⟨h.lt, fun i hi => by rw [getD_drop, Nat.add_assoc]; exact h.cell (m + i) (by omega), fun i hi => by rw [getD_drop]; exact h.row (m + i) (by omega), fun i hi => by rw [getD_drop]; exact h.nil (m + i) (by omega)⟩

/-- ██ the cut, in the words that lie in the rows -/
theorem merge_words {f : Option Int → Option Int → Option Int} (hf : ∀ a b c, f (f a b) c = f a (f b c)) {Z : List (List Nat)} {m k : Nat} {Bw Bx By : List Nat} (hB : Bw.map C = sol f (Z.map (·.map C))) (hx : Bx.map C = sol f ((Z.take m).map (·.map C))) (hy : By.map C = sol f ((Z.drop m).map (·.map C)))
    (h0 : 0 < m) (hm : m < Z.length) (hlen : ∀ i, m < i → i < Z.length → (Z.getD i []).length ≤ (Z.getD m []).length) (hk : k < (Z.getD 0 []).length) :
    C (Bw.getD k 0) = if k < (Z.getD m []).length then f (C (Bx.getD k 0)) (C (By.getD k 0)) else C (Bx.getD k 0) := by
  have lB : Bw.length = (Z.getD 0 []).length := by
    have := congrArg List.length hB
    rw [List.length_map, Fl.sol_length, getD_map_rows, List.length_map] at this
    exact this
  have lX : Bx.length = (Z.getD 0 []).length := by
    have := congrArg List.length hx
    rw [List.length_map, Fl.sol_length, getD_map_rows, List.length_map, getD_take Z m 0 h0] at this
    exact this
  have lY : By.length = (Z.getD m []).length := by
    have := congrArg List.length hy
    rw [List.length_map, Fl.sol_length, getD_map_rows, List.length_map, getD_drop, Nat.add_zero] at this
    exact this
  have e := Fl.merge_get hf (Z.map (·.map C)) m k h0 (by rw [List.length_map]; exact hm) (fun i h1 h2 => by
    rw [List.length_map] at h2
    rw [getD_map_rows, getD_map_rows, List.length_map, List.length_map]
    exact hlen i h1 h2) (by rw [getD_map_rows, List.length_map]; exact hk)
  rw [← List.map_take, ← List.map_drop, ← hB, ← hx, ← hy, getD_map_C Bw k (by omega), getD_map_C Bx k (by omega), getD_map_rows, List.length_map] at e
  rw [e]
  by_cases hk2 : k < (Z.getD m []).length
  · rw [if_pos hk2, if_pos hk2, getD_map_C By k (by omega)]
  · rw [if_neg hk2, if_neg hk2]

theorem len_of {f : Option Int → Option Int → Option Int} {Z : List (List Nat)} {Bw : List Nat} (hB : Bw.map C = sol f (Z.map (·.map C))) : Bw.length = (Z.getD 0 []).length := by
  have := congrArg List.length hB
  rw [List.length_map, Fl.sol_length, getD_map_rows, List.length_map] at this
  exact this

/-- One row in a block of its own. -/
theorem grid_one {w : World} {o : Obj} {Am : Option Addr} {cpm : Nat} {row : List Nat} (hc : (w.alloc o).cell? ⟨w.heap.size, 0, none⟩ = some (.slice Am row.length cpm)) (hr : Reads w.heap.size w Am row) (hn : Am = none → row = []) :
    Grid (w.alloc o).heap.size (w.alloc o) w.heap.size 0 1 (fun _ => Am) (fun _ => cpm) [row] := by
  have hb : Below w.heap.size w (w.alloc o) := (Below.refl _ _).alloc (Nat.le_refl _) o
  refine ⟨by simp, fun i hi => ?_, fun i hi => ?_, fun i hi => ?_⟩
  · obtain rfl : i = 0 := by omega
    exact hc
  · obtain rfl : i = 0 := by omega
    exact hr.below hb hb.size
  · obtain rfl : i = 0 := by omega
    exact hn
theorem one_words {f : Option Int → Option Int → Option Int} {row Bw : List Nat} (hB : Bw.map C = sol f ([row].map (·.map C))) : Bw.map C = row.map C := hB
end Go.Proofs.Qxb6619316a
