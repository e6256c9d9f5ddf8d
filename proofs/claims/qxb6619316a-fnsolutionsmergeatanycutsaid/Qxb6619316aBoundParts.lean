/-
  FnSolutionsBoundEveryEntryAndAbsorbTheirOwnRows, FnSolutionsMergeAtAnyCut: zzBytes; what the walks share.
-/
import Derived.Test.Qxb6619316aSolWalk
namespace Go.Proofs.Qxb6619316a
open Go.RowKit
open Fl (fmax fmin Num sv C omax omin mrgTo mrg accTo sol colTo nanTo)

/-- What came in: no rows, or N rows below the heap's size. -/
def CameRows (w : World) (a : Option Addr) (N : Nat) (A : Nat → Option Addr) (cp : Nat → Nat) (Z : List (List Nat)) : Prop :=
  Z = [] ∨ ∃ b off, a = some ⟨b, off, none⟩ ∧ Grid w.heap.size w b off N A cp Z

/-- What a size check leaves. -/
def Same0 (w : World) (e : Ending) (w' : World) : Prop := ∃ r, e = .returned (.bool r) ∧ w = w'

set_option maxRecDepth 100000 in
set_option maxHeartbeats 1000000 in
theorem bytes13 (Z : List (List Nat)) (a : Option Addr) (N cap : Nat) (A : Nat → Option Addr) (cp : Nat → Nat) (w : World) (hN : Z.length = N) (hl : N ≤ 9223372036854775807) (hrl : ∀ i, i < N → (Z.getD i []).length ≤ 9223372036854775807) (hG : CameRows w a N A cp Z) :
    Calls Try.prog 13 #[.slice a N cap] w fun e w' => Same0 w e w' := by
  have HG : Hid (CameRows w a N A cp Z) := hG
  have HN : Hid (Z.length = N) := hN
  have HRL : Hid (∀ i, i < N → (Z.getD i []).length ≤ 9223372036854775807) := hrl
  clear hG hN hrl
  by_cases h1 : N ≤ 1048576
  rotate_left
  · go_enter Try.func13, Try.ntmps13
    go_wp2
    go_ret
    exact ⟨false, rfl, rfl⟩
  go_enter Try.func13, Try.ntmps13
  go_wp2
  go_loop [3, 4] (fun z t => ∃ k n : Nat, k ≤ N ∧ t = .int .i64 k ∧ z = .int .i64 n ∧ n ≤ 1048576) (fun _ t => N - (intOf t).toNat)
  case atStart => exact ⟨0, N, Nat.zero_le _, rfl, rfl, h1⟩
  case round =>
    obtain ⟨k, n, hk, rfl, rfl, hn⟩ := hrel
    by_cases hlt : k < N
    · obtain ⟨b, off, rfl, hgr⟩ := HG.out.resolve_left (by rintro e; have := HN.out; rw [e] at this; simp at this; omega)
      have hc := hgr.cell k hlt
      have hr := HRL.out k hlt
      generalize (Z.getD k []).length = L at *
      generalize A k = ar at *
      generalize cp k = cr at *
      clear hgr
      by_cases h4 : L ≤ 1048576
      · by_cases h5 : n + L ≤ 1048576
        · go_wp2
          go_round
          case rel => exact ⟨k + 1, n + L, by omega, by go_num, by go_num, by omega⟩
          case measure => simp [intOf]; omega
        · go_wp2
          go_ret
          exact ⟨false, rfl, rfl⟩
      · go_wp2
        go_ret
        exact ⟨false, rfl, rfl⟩
    · go_wp2
      go_ret
      exact ⟨true, rfl, rfl⟩

/-! ### which columns have shown a NaN -/
/-- In the rows ahead of the i-th. -/
def nanB (R : List Fl.Row) (j : Nat) : Nat → Bool
  | 0 => false
  | i + 1 => nanB R j i || (decide (j < (R.getD i []).length) && (R.getD i []).getD j none == none)
/-- .. and in the first k entries of the i-th. -/
def nanK (R : List Fl.Row) (i k j : Nat) : Bool := nanB R j i || (decide (j < k) && (decide (j < (R.getD i []).length) && (R.getD i []).getD j none == none))
theorem nanK_zero (R : List Fl.Row) (i j : Nat) : nanK R i 0 j = nanB R j i := by simp [nanK]
theorem nanK_end (R : List Fl.Row) (i j : Nat) : nanK R i (R.getD i []).length j = nanB R j (i + 1) := by
  unfold nanK
  simp only [nanB]
  cases decide (j < (R.getD i []).length) <;> simp
theorem nanB_all (R : List Fl.Row) (j : Nat) (h : j < (R.getD 0 []).length) (i : Nat) : nanB R j (i + 1) = nanTo R j i := by
  induction i with
  | zero =>
    rw [show nanB R j (0 + 1) = (false || (decide (j < (R.getD 0 []).length) && ((R.getD 0 []).getD j none == none))) from rfl, decide_eq_true h]
    rfl
  | succ n ih =>
    rw [show nanB R j (n + 1 + 1) = (nanB R j (n + 1) || (decide (j < (R.getD (n + 1) []).length) && (R.getD (n + 1) []).getD j none == none)) from rfl, ih]
    simp only [nanTo]
    rw [Bool.or_comm]

/-- The cells of hasNaN. -/
def H (n0 : Nat) (f : Nat → Bool) : List Value := (List.range n0).map fun j => .bool (f j)
theorem H_length (n0 : Nat) (f : Nat → Bool) : (H n0 f).length = n0 := by simp [H]
theorem H_get (n0 : Nat) (f : Nat → Bool) (j : Nat) (h : j < n0) : (H n0 f)[j]? = some (.bool (f j)) := by simp [H, h]
theorem H_false (n0 : Nat) : H n0 (fun _ => false) = List.replicate n0 (.bool false) := by
  apply List.ext_getElem?
  intro j
  by_cases h : j < n0 <;> simp [H, h]
theorem H_congr {n0 : Nat} {f g : Nat → Bool} (h : ∀ j, j < n0 → f j = g j) : H n0 f = H n0 g := by
  apply List.ext_getElem?
  intro j
  by_cases hj : j < n0
  · rw [H_get _ _ _ hj, H_get _ _ _ hj, h j hj]
  · simp [H, hj]
theorem H_set (n0 : Nat) (f : Nat → Bool) (k : Nat) : (H n0 f).set k (.bool true) = H n0 (fun j => f j || j == k) := by
  apply List.ext_getElem?
  intro j
  rw [List.getElem?_set]
  by_cases h : j < n0
  · by_cases e : k = j
    · subst e; simp [H, h]
    · have e2 : (j == k) = false := by simp; omega
      simp [H, h, e, e2]
  · by_cases e : k = j <;> simp [H, h, e]

theorem nanK_yes (R : List Fl.Row) (i k : Nat) (hk : k < (R.getD i []).length) (h : (R.getD i []).getD k none = none) (j : Nat) : (nanK R i k j || j == k) = nanK R i (k + 1) j := by
  unfold nanK
  by_cases e : j = k
  · subst e
    rw [h, decide_eq_true hk]
    simp
  · have e1 : (j == k) = false := by simpa using e
    have e2 : decide (j < k + 1) = decide (j < k) := by simp; omega
    rw [e1, e2, Bool.or_false]
theorem nanK_no (R : List Fl.Row) (i k : Nat) (h : (R.getD i []).getD k none ≠ none) (j : Nat) : nanK R i k j = nanK R i (k + 1) j := by
  unfold nanK
  by_cases e : j = k
  · subst e
    have : ((R.getD i []).getD j none == none) = false := by cases hh : (R.getD i []).getD j none <;> simp_all
    rw [this]
    simp
  · have e2 : decide (j < k + 1) = decide (j < k) := by simp; omega
    rw [e2]

theorem Try.info4 : (Try.prog.info? 4).map (fun i => (i.zero, i.size, i.bytes)) = some (some (.bool false), 1, 1) := by kernel_rfl

theorem num_of_isN {x : Nat} (h : isN x = false) : Num x := by
  by_cases hn : Num x
  · exact hn
  · rw [isN_nan hn] at h; cases h
theorem nan_of_isN {x : Nat} (h : isN x = true) : ¬ Num x := by
  intro hn
  rw [isN_num hn] at h; cases h

theorem key_le {x y : Nat} (hx : Num x) (hy : Num y) {u v : Int} (ex : C x = some u) (ey : C y = some v) (h : u ≤ v) : sv x ≤ sv y := by
  rw [Fl.C_num hx] at ex
  rw [Fl.C_num hy] at ey
  cases hnx : Fl.ng x <;> cases hny : Fl.ng y <;> rw [hnx] at ex <;> rw [hny] at ey <;> simp at ex ey <;> omega

/-- No entry lies above the best of its column. -/
theorem bound_up {R : List Fl.Row} {k i : Nat} {y b : Nat} (hi : i < R.length) (hk : k < (R.getD i []).length) (hy : C y = (R.getD i []).getD k none) (hb : C b = colTo omax R k (R.length - 1)) (ny : isN y = false) (nb : isN b = false) : (FloatKind.f64.format.order y b == some .gt) = false := by
  have ny' := num_of_isN ny
  have nb' := num_of_isN nb
  obtain ⟨m, hm⟩ : ∃ m, colTo omax R k (R.length - 1) = some m := ⟨_, by rw [← hb]; exact Fl.C_num nb'⟩
  obtain ⟨v, e1, e2⟩ := Fl.col_max_ge R k (R.length - 1) i (by omega) (.inr hk) hm
  have := key_le ny' nb' (hy.trans e1) (hb.trans hm) e2
  rw [gt_b ny' nb', decide_eq_false (by omega)]
/-- .. nor below the worst. -/
theorem bound_lo {R : List Fl.Row} {k i : Nat} {y b : Nat} (hi : i < R.length) (hk : k < (R.getD i []).length) (hy : C y = (R.getD i []).getD k none) (hb : C b = colTo omin R k (R.length - 1)) (ny : isN y = false) (nb : isN b = false) : (FloatKind.f64.format.order y b == some .lt) = false := by
  have ny' := num_of_isN ny
  have nb' := num_of_isN nb
  obtain ⟨m, hm⟩ : ∃ m, colTo omin R k (R.length - 1) = some m := ⟨_, by rw [← hb]; exact Fl.C_num nb'⟩
  obtain ⟨v, e1, e2⟩ := Fl.col_min_le R k (R.length - 1) i (by omega) (.inr hk) hm
  have := key_le nb' ny' (hb.trans hm) (hy.trans e1) e2
  rw [lt_b ny' nb', decide_eq_false (by omega)]

theorem Try.info24 : (Try.prog.info? 24).map (fun i => (i.zero, i.size, i.bytes)) = some (some (.slice none 0 0), 1, 24) := by kernel_rfl

theorem isN_max {R : List Fl.Row} {k b N : Nat} (hN : R.length = N) (h0 : 0 < N) (hk : k < (R.getD 0 []).length) (hb : C b = colTo omax R k (R.length - 1)) : isN b = nanB R k N := by
  unfold isN
  rw [hb, Fl.col_nan_max, ← nanB_all R k hk, show R.length - 1 + 1 = N from by omega]
theorem isN_min {R : List Fl.Row} {k b N : Nat} (hN : R.length = N) (h0 : 0 < N) (hk : k < (R.getD 0 []).length) (hb : C b = colTo omin R k (R.length - 1)) : isN b = nanB R k N := by
  unfold isN
  rw [hb, Fl.col_nan_min, ← nanB_all R k hk, show R.length - 1 + 1 = N from by omega]

/-- The cells of the outer slice: the first k rows' headers. -/
def hd (A : Nat → Option Addr) (cp : Nat → Nat) (Z : List (List Nat)) (k : Nat) : List Value := (List.range k).map fun i => .slice (A i) (Z.getD i []).length (cp i)
theorem hd_length (A : Nat → Option Addr) (cp : Nat → Nat) (Z : List (List Nat)) (k : Nat) : (hd A cp Z k).length = k := by simp [hd]
theorem hd_succ (A : Nat → Option Addr) (cp : Nat → Nat) (Z : List (List Nat)) (k : Nat) : hd A cp Z (k + 1) = hd A cp Z k ++ [.slice (A k) (Z.getD k []).length (cp k)] := by simp [hd, List.range_succ]
theorem hd_get (A : Nat → Option Addr) (cp : Nat → Nat) (Z : List (List Nat)) (k i : Nat) (h : i < k) : (hd A cp Z k)[i]? = some (.slice (A i) (Z.getD i []).length (cp i)) := by simp [hd, h]

/-- One append of a header, laid in a block of its own, within the room. -/
theorem step24 {wc wr w' : World} {G k c : Nat} {Y : List Value} {x : Value} {o : Obj} (hG : G ≤ wc.heap.size) (hbel : Below G wc wr) (hown : w'.ownsRow G 24 1 (.slice (some ⟨G, 0, none⟩) (k + 1) c) (k + 1) (Y ++ [x])) (hgr : (wr.alloc o).grownBy w' (some G)) :
    w'.ownsRow G 24 1 (.slice (some ⟨G, 0, none⟩) (k + 1) c) (k + 1) (Y ++ [x]) ∧ Below G wc w' := by
  have hs := hbel.size
  refine ⟨hown, (hbel.alloc (by omega) o).grown hgr (by simp; omega) ?_⟩
  intro k hk
  cases hk
  exact Nat.le_refl _

/-- Two rows more. -/
def ext2 {α : Type} (f : Nat → α) (N : Nat) (x y : α) (i : Nat) : α := if i < N then f i else if i = N then x else y

theorem getD_ext (Z : List (List Nat)) (Bw Ww : List Nat) (i : Nat) : (Z ++ [Bw, Ww]).getD i [] = if i < Z.length then Z.getD i [] else if i = Z.length then Bw else if i = Z.length + 1 then Ww else [] := by
  by_cases h : i < Z.length
  · rw [if_pos h, Fl.getD_left Z _ i [] h]
  · rw [if_neg h, List.getD, List.getElem?_append_right (by omega)]
    by_cases e : i = Z.length
    · subst e; simp
    · rw [if_neg e]
      by_cases e2 : i = Z.length + 1
      · subst e2; simp
      · rw [if_neg e2, List.getElem?_eq_none (by simp; omega)]
        rfl

/-- The grid over the headers of the old rows and of two new ones. -/
theorem grid_ext {w1 w3 : World} {G b off N n0 cb cw c : Nat} {A : Nat → Option Addr} {cp : Nat → Nat} {Z : List (List Nat)} {ab aw : Option Addr} {Bw Ww : List Nat} (hZ : Z.length = N) (hlB : Bw.length = n0) (hlW : Ww.length = n0)
    (hown : w3.ownsRow G 24 1 (.slice (some ⟨G, 0, none⟩) (N + 1 + 1) c) (N + 1 + 1) (hd A cp Z N ++ [.slice ab n0 cb] ++ [.slice aw n0 cw])) (hG1 : Grid G w1 b off N A cp Z) (hbel : Below G w1 w3) (hGs : G < w3.heap.size)
    (rb : Reads G w1 ab Bw) (rw' : Reads G w1 aw Ww) (nb : ab = none → Bw = []) (nw : aw = none → Ww = []) :
    Grid w3.heap.size w3 G 0 (N + 1 + 1) (ext2 A N ab aw) (ext2 cp N cb cw) (Z ++ [Bw, Ww]) := by
  refine ⟨hGs, fun i hi => ?_, fun i hi => ?_, fun i hi => ?_⟩
  · rw [Nat.zero_add, hown.cellAt i (by omega), getD_ext, hZ]
    unfold ext2
    by_cases h : i < N
    · rw [if_pos h, if_pos h, if_pos h, List.getElem?_append_left (by simp [hd_length]; omega), List.getElem?_append_left (by simp [hd_length]; omega), hd_get _ _ _ _ _ h]
    · rw [if_neg h, if_neg h, if_neg h]
      by_cases e : i = N
      · subst e
        rw [if_pos rfl, if_pos rfl, if_pos rfl, List.getElem?_append_left (by simp [hd_length]), List.getElem?_append_right (by simp [hd_length])]
        simp [hd_length, hlB]
      · obtain rfl : i = N + 1 := by omega
        rw [if_neg e, if_neg e, if_neg e, if_pos rfl, List.getElem?_append_right (by simp [hd_length])]
        simp [hd_length, hlW]
  · rw [getD_ext, hZ]
    unfold ext2
    by_cases h : i < N
    · rw [if_pos h, if_pos h]; exact (hG1.row i h).below hbel (by omega)
    · rw [if_neg h, if_neg h]
      by_cases e : i = N
      · rw [if_pos e, if_pos e]; exact rb.below hbel (by omega)
      · rw [if_neg e, if_neg e, if_pos (by omega)]; exact rw'.below hbel (by omega)
  · rw [getD_ext, hZ]
    unfold ext2
    by_cases h : i < N
    · rw [if_pos h, if_pos h]; exact hG1.nil i h
    · rw [if_neg h, if_neg h]
      by_cases e : i = N
      · rw [if_pos e, if_pos e]; exact nb
      · rw [if_neg e, if_neg e, if_pos (by omega)]; exact nw

theorem ext_len {Z : List (List Nat)} {Bw Ww : List Nat} {n0 : Nat} (h : ∀ i, i < Z.length → (Z.getD i []).length ≤ n0) (hlB : Bw.length = n0) (hlW : Ww.length = n0) (i : Nat) : ((Z ++ [Bw, Ww]).getD i []).length ≤ n0 := by
  rw [getD_ext]
  split
  · exact h i (by assumption)
  · split
    · omega
    · split
      · omega
      · simp
end Go.Proofs.Qxb6619316a
