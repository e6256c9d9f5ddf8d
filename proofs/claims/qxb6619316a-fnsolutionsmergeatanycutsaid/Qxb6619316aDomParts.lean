/-
  THE WALK of FnClosenessDominanceAndRange.
-/
import Derived.Test.Qxb6619316aCloseWalk
namespace Go.Proofs.Qxb6619316a
open Go.RowKit
open Fl (fmax fmin lmin gmax foldF Num sv cl)
attribute [local go_sem] run_store_float

/-! ### the tests on floats, as the walk writes them -/
section
variable {x y : Nat}
theorem lt_b (hx : Num x) (hy : Num y) : (FloatKind.f64.format.order x y == some .lt) = decide (sv x < sv y) := by
  show (Ieee.double.order x y == some .lt) = _
  rcases Fl.order_cases hx hy with ⟨h1, e⟩ | ⟨h1, e⟩ | ⟨h1, e⟩ <;> rw [e]
  · rw [decide_eq_true (by omega)]; rfl
  · rw [decide_eq_false (by omega)]; rfl
  · rw [decide_eq_false (by omega)]; rfl
theorem gt_b (hx : Num x) (hy : Num y) : (FloatKind.f64.format.order x y == some .gt) = decide (sv y < sv x) := by
  show (Ieee.double.order x y == some .gt) = _
  rcases Fl.order_cases hx hy with ⟨h1, e⟩ | ⟨h1, e⟩ | ⟨h1, e⟩ <;> rw [e]
  · rw [decide_eq_false (by omega)]; rfl
  · rw [decide_eq_false (by omega)]; rfl
  · rw [decide_eq_true (by omega)]; rfl
theorem eq_b (hx : Num x) (hy : Num y) : (FloatKind.f64.format.order x y == some .eq) = decide (sv x = sv y) := by
  show (Ieee.double.order x y == some .eq) = _
  rcases Fl.order_cases hx hy with ⟨h1, e⟩ | ⟨h1, e⟩ | ⟨h1, e⟩ <;> rw [e]
  · rw [decide_eq_false (by omega)]; rfl
  · rw [decide_eq_true (by omega)]; rfl
  · rw [decide_eq_false (by omega)]; rfl
theorem ne_b (hx : Num x) (hy : Num y) : (FloatKind.f64.format.order x y != some .eq) = !decide (sv x = sv y) := by
  rw [← eq_b hx hy]; rfl
theorem le_b (hx : Num x) (hy : Num y) : (FloatKind.f64.format.order x y == some .lt || FloatKind.f64.format.order x y == some .eq) = decide (sv x ≤ sv y) := by
  rw [lt_b hx hy, eq_b hx hy, Bool.eq_iff_iff]
  simp
  omega
theorem ge_b (hx : Num x) (hy : Num y) : (FloatKind.f64.format.order x y == some .gt || FloatKind.f64.format.order x y == some .eq) = decide (sv y ≤ sv x) := by
  rw [gt_b hx hy, eq_b hx hy, Bool.eq_iff_iff]
  simp
  omega
end

theorem order_nan {x : Nat} (h : ¬ Num x) (y : Nat) : FloatKind.f64.format.order x y = none := by
  show Ieee.double.order x y = none
  unfold Ieee.Format.order
  rw [Fl.read_nan (by unfold Num at h; omega)]
  cases Ieee.double.read y <;> rfl

theorem num_max : Num 9218868437227405311 := by unfold Num; rw [Fl.rg_of (by omega)]; omega

/-- The two tests of one entry say yes: it is good. -/
theorem good_of {x : Nat} (h1 : (FloatKind.f64.format.order x 0 == some .gt || FloatKind.f64.format.order x 0 == some .eq) = true) (h2 : (FloatKind.f64.format.order x 9218868437227405311 == some .lt || FloatKind.f64.format.order x 9218868437227405311 == some .eq) = true) : Fl.Good x := by
  by_cases hn : Num x
  · rw [ge_b hn Fl.num_zero, Fl.sv_zero] at h1
    rw [le_b hn num_max] at h2
    simp only [decide_eq_true_eq] at h1 h2
    refine ⟨?_, h1⟩
    unfold Num at hn
    by_cases hi : Fl.rg x < 9218868437227405312
    · exact hi
    · exfalso
      rw [Fl.sv_of (show 9218868437227405311 < 9223372036854775808 by omega)] at h2
      have hv : sv x = (Fl.V (Fl.rg x) : Int) := by
        unfold sv at h1 ⊢
        have := Fl.V_pos (show 0 < Fl.rg x by omega)
        cases hng : Fl.ng x
        · rfl
        · rw [hng] at h1
          simp only [if_true] at h1
          omega
      have := Fl.V_lt (show 9218868437227405311 < Fl.rg x by omega)
      omega
  · rw [order_nan hn] at h1
    simp at h1

/-- What zzBytes leaves (behind a name). -/
def Told (n : Nat) (w : World) (e : Ending) (w' : World) : Prop := ∃ r, e = .returned (.bool r) ∧ (r = true → n ≤ 1048576) ∧ w = w'

set_option maxRecDepth 100000 in
theorem bytes17 (a b : Option Addr) (na nb ca cb : Nat) (i j : Int) (w : World) (ha : na ≤ 9223372036854775807) (hb : nb ≤ 9223372036854775807) :
    Calls Try.prog 17 #[.slice a na ca, .slice b nb cb, .int .i64 i, .int .i64 j] w fun e w' => Told (na + nb) w e w' := by
  by_cases h1 : na ≤ 1048576
  rotate_left
  · go_enter Try.func17, Try.ntmps17
    go_wp2
    go_ret
    exact ⟨false, rfl, by simp, rfl⟩
  by_cases h2 : nb ≤ 1048576
  rotate_left
  · go_enter Try.func17, Try.ntmps17
    go_wp2
    go_ret
    exact ⟨false, rfl, by simp, rfl⟩
  by_cases h3 : na + nb ≤ 1048576
  rotate_left
  · go_enter Try.func17, Try.ntmps17
    go_wp2
    go_ret
    exact ⟨false, rfl, by simp, rfl⟩
  go_enter Try.func17, Try.ntmps17
  go_wp2
  go_ret
  exact ⟨true, rfl, fun _ => h3, rfl⟩

set_option maxRecDepth 100000 in
theorem bytes15 (a b : Option Addr) (na nb ca cb : Nat) (p : Int) (w : World) (ha : na ≤ 9223372036854775807) (hb : nb ≤ 9223372036854775807) :
    Calls Try.prog 15 #[.slice a na ca, .slice b nb cb, .int .i64 p] w fun e w' => Told (na + nb) w e w' := by
  by_cases h1 : na ≤ 1048576
  rotate_left
  · go_enter Try.func15, Try.ntmps15
    go_wp2
    go_ret
    exact ⟨false, rfl, by simp, rfl⟩
  by_cases h2 : nb ≤ 1048576
  rotate_left
  · go_enter Try.func15, Try.ntmps15
    go_wp2
    go_ret
    exact ⟨false, rfl, by simp, rfl⟩
  by_cases h3 : na + nb ≤ 1048576
  rotate_left
  · go_enter Try.func15, Try.ntmps15
    go_wp2
    go_ret
    exact ⟨false, rfl, by simp, rfl⟩
  go_enter Try.func15, Try.ntmps15
  go_wp2
  go_ret
  exact ⟨true, rfl, fun _ => h3, rfl⟩

/-- The block behind a row that the call has just made, whole. -/
theorem full_block {w : World} {base g n : Nat} {e : TypeId} {xs : List Value} (h : w.ownsRow base e 1 (.slice (some ⟨g, 0, none⟩) n n) n xs) : ∃ cur : List Value, w.heap[g]? = some (.cells cur.toArray e (0, 0)) ∧ cur.length = n := by
  rcases h.2 with ⟨h', _⟩ | ⟨g', cap', cur, h', _, hg, _, _, hs, _⟩
  · simp at h'
  · simp only [Value.slice.injEq, Option.some.injEq, Addr.mk.injEq, and_true, true_and] at h'
    obtain ⟨rfl, rfl⟩ := h'
    exact ⟨cur.toList, by simpa using hg, by simpa using hs⟩

theorem splice_all {cur cs : List Value} (h : cur.length = cs.length) : splice cur 0 cs = cs := by
  simp [splice, List.drop_eq_nil_of_le (Nat.le_of_eq h)]

theorem reads_block {w : World} {g : Nat} {Z : List Nat} (hg : w.heap[g]? = some (.cells (U Z).toArray 28 (0, 0))) : Reads w.heap.size w (some ⟨g, 0, none⟩) Z := by
  refine .inr ⟨g, 0, rfl, (Array.getElem?_eq_some_iff.1 hg).1, fun j hj => ?_⟩
  rw [Nat.zero_add, cell_of_row w g j _ 28 (0, 0) hg]
  simp [U, List.getD, hj]

/-- What came in: a slice that reads as Z; where it is nil it is empty. -/
def CameIn (w : World) (a : Option Addr) (cap : Nat) (Z : List Nat) : Prop := (a = none → Z = [] ∧ cap = 0) ∧ Reads w.heap.size w a Z

/-- Behind the copy. -/
def Kept (w : World) (v : Value) (Z : List Nat) : Prop := ∃ a, v = .slice a Z.length Z.length ∧ Reads w.heap.size w a Z

theorem CameIn.below {w w' : World} {a : Option Addr} {cap : Nat} {Z : List Nat} (h : CameIn w a cap Z) (hb : Below w.heap.size w w') : CameIn w' a cap Z := ⟨h.1, h.2.below hb hb.size⟩

theorem copy_from {B0 : Nat} {w : World} {a : Option Addr} {Z : List Nat} (h : Reads B0 w a Z) (h0 : 0 < (U Z).length) : ∃ ad, a = some ad ∧ ∀ j v, (U Z)[j]? = some v → w.cell? (ad.add j) = some v := by
  obtain ⟨b, off, ha, _, hc⟩ := h.resolve_left (by rintro rfl; simp [U] at h0)
  refine ⟨_, ha, fun j v hv => ?_⟩
  have hj : j < Z.length := by have := (List.getElem?_eq_some_iff.1 hv).1; rwa [U_length] at this
  rw [U_get hj] at hv
  rw [Go.WideShapes.add_plain, hc j hj]
  exact hv
end Go.Proofs.Qxb6619316a
