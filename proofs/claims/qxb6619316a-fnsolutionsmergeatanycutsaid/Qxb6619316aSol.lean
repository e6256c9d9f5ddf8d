/-
  THE PLAIN LAWS of the solutions: no Go in sight. A float's class: NaN, or its place in the order in which -0 lies right below +0. Greatest and least of a column, NaN if any is.
-/
import Derived.Test.Qxb6619316aClose
namespace Go.Proofs.Qxb6619316a.Fl
open Ieee
set_option linter.unusedVariables false

/-- The class: none for a NaN. -/
def C (x : Nat) : Option Int := if rg x ≤ 9218868437227405312 then some (2 * sv x + (if ng x then 0 else 1)) else none

theorem C_num {x : Nat} (h : Num x) : C x = some (2 * sv x + (if ng x then 0 else 1)) := by unfold C; exact if_pos h
theorem C_nan {x : Nat} (h : ¬ Num x) : C x = none := by unfold C; exact if_neg h
theorem C_none {x : Nat} : C x = none ↔ ¬ Num x := by
  by_cases h : Num x
  · rw [C_num h]; simp [h]
  · rw [C_nan h]; simp [h]

def omax : Option Int → Option Int → Option Int
  | some x, some y => some (if x < y then y else x)
  | _, _ => none
def omin : Option Int → Option Int → Option Int
  | some x, some y => some (if y < x then y else x)
  | _, _ => none

theorem C_fmax {x y : Nat} (hx : Num x) (hy : Num y) : C (fmax x y) = omax (C x) (C y) := by
  have px := C_num hx
  have py := C_num hy
  unfold fmax
  rcases order_cases hx hy with ⟨h, e⟩ | ⟨h, e⟩ | ⟨h, e⟩ <;> rw [e] <;> cases hnx : ng x <;> cases hny : ng y <;> rw [hnx] at px <;> rw [hny] at py <;>
    simp only [px, py, omax, if_true, if_false, Bool.false_eq_true, Option.some.injEq] <;> split <;> omega
theorem C_fmin {x y : Nat} (hx : Num x) (hy : Num y) : C (fmin x y) = omin (C x) (C y) := by
  have px := C_num hx
  have py := C_num hy
  unfold fmin
  rcases order_cases hx hy with ⟨h, e⟩ | ⟨h, e⟩ | ⟨h, e⟩ <;> rw [e] <;> cases hnx : ng x <;> cases hny : ng y <;> rw [hnx] at px <;> rw [hny] at py <;>
    simp only [px, py, omin, if_true, if_false, Bool.false_eq_true, Option.some.injEq] <;> split <;> omega

theorem omax_none_l (b : Option Int) : omax none b = none := rfl
theorem omax_none_r (a : Option Int) : omax a none = none := by cases a <;> rfl
theorem omin_none_l (b : Option Int) : omin none b = none := rfl
theorem omin_none_r (a : Option Int) : omin a none = none := by cases a <;> rfl
theorem omax_assoc (a b c : Option Int) : omax (omax a b) c = omax a (omax b c) := by
  cases a <;> cases b <;> cases c <;> simp only [omax]
  rename_i x y z
  simp only [Option.some.injEq]
  split <;> split <;> (try split) <;> (try split) <;> omega
theorem omin_assoc (a b c : Option Int) : omin (omin a b) c = omin a (omin b c) := by
  cases a <;> cases b <;> cases c <;> simp only [omin]
  rename_i x y z
  simp only [Option.some.injEq]
  split <;> split <;> (try split) <;> (try split) <;> omega

/-! ### rows merged entry by entry -/
abbrev Row := List (Option Int)

/-- The first k entries of v merged into acc. -/
def mrgTo (f : Option Int → Option Int → Option Int) (acc v : Row) (k : Nat) : Row :=
  (List.range acc.length).map fun j => if j < k ∧ j < v.length then f (acc.getD j none) (v.getD j none) else acc.getD j none
theorem mrgTo_length (f : Option Int → Option Int → Option Int) (acc v : Row) (k : Nat) : (mrgTo f acc v k).length = acc.length := by simp [mrgTo]
theorem mrgTo_get (f : Option Int → Option Int → Option Int) (acc v : Row) (k j : Nat) (h : j < acc.length) : (mrgTo f acc v k).getD j none = if j < k ∧ j < v.length then f (acc.getD j none) (v.getD j none) else acc.getD j none := by
  simp [mrgTo, List.getD, h]
theorem mrgTo_zero (f : Option Int → Option Int → Option Int) (acc v : Row) : mrgTo f acc v 0 = acc := by
  apply List.ext_getElem?
  intro j
  by_cases h : j < acc.length
  · simp [mrgTo, h]
  · simp [mrgTo, h]
theorem mrgTo_succ (f : Option Int → Option Int → Option Int) (acc v : Row) (k : Nat) (h1 : k < acc.length) (h2 : k < v.length) : (mrgTo f acc v k).set k (f (acc.getD k none) (v.getD k none)) = mrgTo f acc v (k + 1) := by
  apply List.ext_getElem?
  intro j
  rw [List.getElem?_set]
  by_cases h : j < acc.length
  · by_cases e : k = j
    · subst e; simp [mrgTo, h, h2]
    · have e2 : (j < k + 1) = (j < k) := by simp; omega
      simp [mrgTo, h, e, e2]
  · by_cases e : k = j <;> simp [mrgTo, h, e]

def mrg (f : Option Int → Option Int → Option Int) (acc v : Row) : Row := mrgTo f acc v v.length
theorem mrgTo_all (f : Option Int → Option Int → Option Int) (acc v : Row) : mrgTo f acc v v.length = mrg f acc v := rfl

/-- The first row, and the i rows behind it merged into it. -/
def accTo (f : Option Int → Option Int → Option Int) (R : List Row) : Nat → Row
  | 0 => R.getD 0 []
  | i + 1 => mrg f (accTo f R i) (R.getD (i + 1) [])
theorem accTo_length (f : Option Int → Option Int → Option Int) (R : List Row) (i : Nat) : (accTo f R i).length = (R.getD 0 []).length := by
  induction i with
  | zero => rfl
  | succ n ih => simp only [accTo, mrg, mrgTo_length]; exact ih

/-- The column k over the first i + 1 rows. -/
def colTo (f : Option Int → Option Int → Option Int) (R : List Row) (k : Nat) : Nat → Option Int
  | 0 => (R.getD 0 []).getD k none
  | i + 1 => if k < (R.getD (i + 1) []).length then f (colTo f R k i) ((R.getD (i + 1) []).getD k none) else colTo f R k i
theorem accTo_get (f : Option Int → Option Int → Option Int) (R : List Row) (k i : Nat) (h : k < (R.getD 0 []).length) : (accTo f R i).getD k none = colTo f R k i := by
  induction i with
  | zero => rfl
  | succ n ih =>
    simp only [accTo, mrg, colTo]
    rw [mrgTo_get _ _ _ _ _ (by rw [accTo_length]; exact h), ih]
    by_cases hk : k < (R.getD (n + 1) []).length
    · rw [if_pos ⟨hk, hk⟩, if_pos hk]
    · rw [if_neg (by omega), if_neg hk]

def sol (f : Option Int → Option Int → Option Int) (R : List Row) : Row := accTo f R (R.length - 1)
theorem sol_length (f : Option Int → Option Int → Option Int) (R : List Row) : (sol f R).length = (R.getD 0 []).length := accTo_length f R _
theorem sol_get (f : Option Int → Option Int → Option Int) (R : List Row) (k : Nat) (h : k < (R.getD 0 []).length) : (sol f R).getD k none = colTo f R k (R.length - 1) := accTo_get f R k _ h

/-- Does column k hold a NaN in the first i + 1 rows? -/
def nanTo (R : List Row) (k : Nat) : Nat → Bool
  | 0 => (R.getD 0 []).getD k none == none
  | i + 1 => (decide (k < (R.getD (i + 1) []).length) && (R.getD (i + 1) []).getD k none == none) || nanTo R k i

theorem col_nan_max (R : List Row) (k i : Nat) : (colTo omax R k i == none) = nanTo R k i := by
  induction i with
  | zero => rfl
  | succ n ih =>
    simp only [colTo, nanTo]
    by_cases hk : k < (R.getD (n + 1) []).length
    · rw [if_pos hk, ← ih, decide_eq_true hk, Bool.true_and]
      cases (R.getD (n + 1) []).getD k none <;> cases colTo omax R k n <;> rfl
    · rw [if_neg hk, ih, decide_eq_false hk]; simp
theorem col_nan_min (R : List Row) (k i : Nat) : (colTo omin R k i == none) = nanTo R k i := by
  induction i with
  | zero => rfl
  | succ n ih =>
    simp only [colTo, nanTo]
    by_cases hk : k < (R.getD (n + 1) []).length
    · rw [if_pos hk, ← ih, decide_eq_true hk, Bool.true_and]
      cases (R.getD (n + 1) []).getD k none <;> cases colTo omin R k n <;> rfl
    · rw [if_neg hk, ih, decide_eq_false hk]; simp

/-- Every entry lies below the greatest. -/
theorem col_max_ge (R : List Row) (k i j : Nat) (hj : j ≤ i) (hk : j = 0 ∨ k < (R.getD j []).length) {m : Int} (hm : colTo omax R k i = some m) : ∃ v, (R.getD j []).getD k none = some v ∧ v ≤ m := by
  induction i generalizing m with
  | zero =>
    obtain rfl : j = 0 := by omega
    exact ⟨m, hm, Int.le_refl _⟩
  | succ n ih =>
    simp only [colTo] at hm
    by_cases hk2 : k < (R.getD (n + 1) []).length
    · rw [if_pos hk2] at hm
      cases h1 : colTo omax R k n with
      | none => rw [h1] at hm; cases hm
      | some a =>
        cases h2 : (R.getD (n + 1) []).getD k none with
        | none => rw [h1, h2] at hm; cases hm
        | some b =>
          rw [h1, h2] at hm
          simp only [omax, Option.some.injEq] at hm
          by_cases e : j = n + 1
          · subst e
            exact ⟨b, h2, by split at hm <;> omega⟩
          · obtain ⟨v, e1, e2⟩ := ih (by omega) h1
            exact ⟨v, e1, by split at hm <;> omega⟩
    · rw [if_neg hk2] at hm
      by_cases e : j = n + 1
      · subst e; omega
      · exact ih (by omega) hm
theorem col_min_le (R : List Row) (k i j : Nat) (hj : j ≤ i) (hk : j = 0 ∨ k < (R.getD j []).length) {m : Int} (hm : colTo omin R k i = some m) : ∃ v, (R.getD j []).getD k none = some v ∧ m ≤ v := by
  induction i generalizing m with
  | zero =>
    obtain rfl : j = 0 := by omega
    exact ⟨m, hm, Int.le_refl _⟩
  | succ n ih =>
    simp only [colTo] at hm
    by_cases hk2 : k < (R.getD (n + 1) []).length
    · rw [if_pos hk2] at hm
      cases h1 : colTo omin R k n with
      | none => rw [h1] at hm; cases hm
      | some a =>
        cases h2 : (R.getD (n + 1) []).getD k none with
        | none => rw [h1, h2] at hm; cases hm
        | some b =>
          rw [h1, h2] at hm
          simp only [omin, Option.some.injEq] at hm
          by_cases e : j = n + 1
          · subst e
            exact ⟨b, h2, by split at hm <;> omega⟩
          · obtain ⟨v, e1, e2⟩ := ih (by omega) h1
            exact ⟨v, e1, by split at hm <;> omega⟩
    · rw [if_neg hk2] at hm
      by_cases e : j = n + 1
      · subst e; omega
      · exact ih (by omega) hm

/-! ### rows added behind; a cut -/
theorem getD_left {α : Type} (R S : List α) (i : Nat) (d : α) (h : i < R.length) : (R ++ S).getD i d = R.getD i d := by
  rw [List.getD, List.getD, List.getElem?_append_left h]
theorem colTo_left (f : Option Int → Option Int → Option Int) (R S : List Row) (k i : Nat) (h : i < R.length) : colTo f (R ++ S) k i = colTo f R k i := by
  induction i with
  | zero => simp only [colTo]; rw [getD_left R S 0 [] h]
  | succ n ih => simp only [colTo]; rw [getD_left R S (n + 1) [] h, ih (by omega)]

/-- The least is not above the greatest; one is a NaN where the other is. -/
theorem col_pair (R : List Row) (k i : Nat) : (colTo omax R k i = none ∧ colTo omin R k i = none) ∨ ∃ a b, colTo omax R k i = some a ∧ colTo omin R k i = some b ∧ b ≤ a := by
  have h1 := col_nan_max R k i
  have h2 := col_nan_min R k i
  cases ha : colTo omax R k i with
  | none =>
    rw [ha] at h1
    rw [← h1] at h2
    left
    refine ⟨rfl, ?_⟩
    cases hb : colTo omin R k i with
    | none => rfl
    | some b => rw [hb] at h2; cases h2
  | some a =>
    right
    cases hb : colTo omin R k i with
    | none =>
      rw [ha] at h1
      rw [hb, ← h1] at h2
      cases h2
    | some b =>
      obtain ⟨v, e1, l1⟩ := col_max_ge R k i 0 (Nat.zero_le _) (.inl rfl) ha
      obtain ⟨u, e2, l2⟩ := col_min_le R k i 0 (Nat.zero_le _) (.inl rfl) hb
      rw [e1] at e2
      cases e2
      exact ⟨a, b, rfl, rfl, by omega⟩

theorem row_ext {A D : Row} (hl : A.length = D.length) (h : ∀ k, k < A.length → A.getD k none = D.getD k none) : A = D := by
  apply List.ext_getElem?
  intro k
  by_cases hk : k < A.length
  · have := h k hk
    rw [List.getElem?_eq_getElem hk, List.getElem?_eq_getElem (by omega)]
    simp [List.getD, hk, show k < D.length by omega] at this
    rw [this]
  · rw [List.getElem?_eq_none (by omega), List.getElem?_eq_none (by omega)]

theorem ext_get {R : List Row} (b w : Row) (f : Option Int → Option Int → Option Int) (k : Nat) (h0 : 0 < R.length) (hb : k < b.length) (hw : k < w.length) :
    colTo f (R ++ [b, w]) k (R.length + 1) = f (f (colTo f R k (R.length - 1)) (b.getD k none)) (w.getD k none) := by
  obtain ⟨n, hn⟩ : ∃ n, R.length = n + 1 := ⟨R.length - 1, by omega⟩
  have e1 : (R ++ [b, w]).getD (n + 1) [] = b := by simp [List.getD, hn]
  have e2 : (R ++ [b, w]).getD (n + 1 + 1) [] = w := by
    rw [List.getD, List.getElem?_append_right (by omega), hn]
    simp
  rw [hn]
  simp only [colTo]
  rw [e1, e2, if_pos hw, if_pos hb, colTo_left f R [b, w] k n (by omega)]
  rfl

/-- ██ adding the two solutions as rows leaves both as they were -/
theorem absorb_max (R : List Row) (h0 : 0 < R.length) : sol omax (R ++ [sol omax R, sol omin R]) = sol omax R := by
  have hg : (R ++ [sol omax R, sol omin R]).getD 0 [] = R.getD 0 [] := getD_left R _ 0 [] h0
  refine row_ext (by rw [sol_length, sol_length, hg]) (fun k hk => ?_)
  rw [sol_length, hg] at hk
  rw [sol_get _ _ _ (by rw [hg]; exact hk), sol_get _ _ _ hk]
  rw [show (R ++ [sol omax R, sol omin R]).length - 1 = R.length + 1 from by simp]
  rw [ext_get _ _ _ _ h0 (by rw [sol_length]; exact hk) (by rw [sol_length]; exact hk), sol_get _ _ _ hk, sol_get _ _ _ hk]
  rcases col_pair R k (R.length - 1) with ⟨e1, e2⟩ | ⟨a, b, e1, e2, hle⟩
  · rw [e1]; rfl
  · rw [e1, e2]
    simp only [omax, Option.some.injEq]
    split <;> split at * <;> omega
theorem absorb_min (R : List Row) (h0 : 0 < R.length) : sol omin (R ++ [sol omax R, sol omin R]) = sol omin R := by
  have hg : (R ++ [sol omax R, sol omin R]).getD 0 [] = R.getD 0 [] := getD_left R _ 0 [] h0
  refine row_ext (by rw [sol_length, sol_length, hg]) (fun k hk => ?_)
  rw [sol_length, hg] at hk
  rw [sol_get _ _ _ (by rw [hg]; exact hk), sol_get _ _ _ hk]
  rw [show (R ++ [sol omax R, sol omin R]).length - 1 = R.length + 1 from by simp]
  rw [ext_get _ _ _ _ h0 (by rw [sol_length]; exact hk) (by rw [sol_length]; exact hk), sol_get _ _ _ hk, sol_get _ _ _ hk]
  rcases col_pair R k (R.length - 1) with ⟨e1, e2⟩ | ⟨a, b, e1, e2, hle⟩
  · rw [e2]; rfl
  · rw [e1, e2]
    simp only [omin, Option.some.injEq]
    split <;> split at * <;> omega

/-- ██ a cut at m: the column is the first part's with the second part's merged in, where it reaches so far -/
theorem cut_col {f : Option Int → Option Int → Option Int} (hf : ∀ a b c, f (f a b) c = f a (f b c)) (R : List Row) (m k : Nat) (h1 : 0 < m) (hm : m < R.length) (hlen : ∀ i, m < i → i < R.length → (R.getD i []).length ≤ (R.getD m []).length) :
    ∀ i, m + i < R.length → colTo f R k (m + i) = if k < (R.getD m []).length then f (colTo f R k (m - 1)) (colTo f (R.drop m) k i) else colTo f R k (m - 1)
  | 0, h => by
    obtain ⟨n, rfl⟩ : ∃ n, m = n + 1 := ⟨m - 1, by omega⟩
    have e : (R.drop (n + 1)).getD 0 [] = R.getD (n + 1) [] := by simp [List.getD]
    simp only [colTo, e]
    rfl
  | i + 1, h => by
    have ih := cut_col hf R m k h1 hm hlen i (by omega)
    have e : (R.drop m).getD (i + 1) [] = R.getD (m + (i + 1)) [] := by simp [List.getD]
    have hl := hlen (m + (i + 1)) (by omega) h
    rw [show m + (i + 1) = (m + i) + 1 from by omega] at hl e ⊢
    simp only [colTo]
    rw [ih, e]
    by_cases hk : k < (R.getD (m + i + 1) []).length
    · rw [if_pos hk, if_pos (by omega), if_pos (by omega), if_pos hk, hf]
    · rw [if_neg hk, if_neg hk]

theorem take_col (f : Option Int → Option Int → Option Int) (R : List Row) (m k : Nat) (h1 : 0 < m) (hm : m < R.length) : colTo f R k (m - 1) = colTo f (R.take m) k (m - 1) := by
  have := colTo_left f (R.take m) (R.drop m) k (m - 1) (by simp; omega)
  rw [List.take_append_drop] at this
  exact this

theorem merge_get {f : Option Int → Option Int → Option Int} (hf : ∀ a b c, f (f a b) c = f a (f b c)) (R : List Row) (m k : Nat) (h1 : 0 < m) (hm : m < R.length) (hlen : ∀ i, m < i → i < R.length → (R.getD i []).length ≤ (R.getD m []).length)
    (hk : k < (R.getD 0 []).length) : (sol f R).getD k none = if k < (R.getD m []).length then f ((sol f (R.take m)).getD k none) ((sol f (R.drop m)).getD k none) else (sol f (R.take m)).getD k none := by
  have g0 : (R.take m).getD 0 [] = R.getD 0 [] := by
    have := getD_left (R.take m) (R.drop m) 0 [] (by simp; omega)
    rw [List.take_append_drop] at this
    exact this.symm
  have gm : (R.drop m).getD 0 [] = R.getD m [] := by simp [List.getD]
  have lt : (R.take m).length = m := by simp; omega
  have ld : (R.drop m).length = R.length - m := by simp
  rw [sol_get _ _ _ hk, sol_get f (R.take m) _ (by rw [g0]; exact hk), lt, ← take_col f R m k h1 hm]
  have := cut_col hf R m k h1 hm hlen (R.length - 1 - m) (by omega)
  rw [show m + (R.length - 1 - m) = R.length - 1 from by omega] at this
  rw [this]
  by_cases hk2 : k < (R.getD m []).length
  · rw [if_pos hk2, if_pos hk2, sol_get f (R.drop m) _ (by rw [gm]; exact hk2), ld, show R.length - m - 1 = R.length - 1 - m from by omega]
  · rw [if_neg hk2, if_neg hk2]

/-- One row's solutions are that row. -/
theorem sol_one (f : Option Int → Option Int → Option Int) (r : Row) : sol f [r] = r := rfl
end Go.Proofs.Qxb6619316a.Fl
