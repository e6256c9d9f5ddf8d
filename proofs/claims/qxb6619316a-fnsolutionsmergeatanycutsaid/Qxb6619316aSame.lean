/-
  THE WALKS of isNaN, negSign, sameF, sameSlice.
-/
import Derived.Test.Qxb6619316aDomParts
import Derived.Test.Qxb6619316aSol
namespace Go.Proofs.Qxb6619316a
open Go.RowKit
open Fl (Num sv C ng)

/-- Is it a NaN? -/
def isN (x : Nat) : Bool := C x == none
/-- Are they of one class? -/
def sameC (x y : Nat) : Bool := C x == C y

theorem isN_num {x : Nat} (h : Num x) : isN x = false := by unfold isN; rw [Fl.C_num h]; rfl
theorem isN_nan {x : Nat} (h : ¬ Num x) : isN x = true := by unfold isN; rw [Fl.C_nan h]; rfl

theorem nan_any (x : Nat) (w : World) : Calls Try.prog 14 #[.float .f64 x] w fun e w' => e = .returned (.bool (isN x)) ∧ w = w' := by
  by_cases h : Num x
  · have q : (FloatKind.f64.format.order x x != some .eq) = false := by rw [ne_b h h]; simp
    have e := isN_num h
    go_enter Try.func14, Try.ntmps14
    go_wp2
    go_ret
    exact ⟨ret_bool e.symm, rfl⟩
  · have q : (FloatKind.f64.format.order x x != some .eq) = true := by rw [order_nan h]; rfl
    have e := isN_nan h
    go_enter Try.func14, Try.ntmps14
    go_wp2
    go_ret
    exact ⟨ret_bool e.symm, rfl⟩
theorem nan_q (x : Nat) (w : World) : Calls Try.prog 14 #[.float .f64 x] w fun e w' => e = .returned (.bool (isN x)) ∧ w' = w := (nan_any x w).mono fun _ _ ⟨h1, h2⟩ => ⟨h1, h2.symm⟩

/-- 1 / x at a zero is the infinity of its sign. -/
theorem inv_zero {x : Nat} (h0 : sv x = 0) : Ieee.double.div 4607182418800017408 x = some (Ieee.double.word (ng x) 9218868437227405312) := by
  have hr : Fl.rg x = 0 := by
    by_cases hc : Fl.rg x = 0
    · exact hc
    · exfalso
      have := Fl.V_pos (show 0 < Fl.rg x by omega)
      unfold sv at h0
      cases hn : ng x <;> rw [hn] at h0
      · simp only [Bool.false_eq_true, if_false] at h0; omega
      · simp only [if_true] at h0; omega
  obtain ⟨m, i, e, _, hm⟩ := Fl.read_fin (x := 4607182418800017408) (by rw [Fl.rg_of (by omega)]; omega)
  have e2 : Ieee.double.read x = .number (ng x) 0 (-1074) := by
    rw [Fl.read_def, hr, if_pos (by omega)]
  have hm0 : m ≠ 0 := by
    intro hz
    rw [hz, Nat.zero_mul, Fl.rg_of (by omega), Fl.V_one] at hm
    have := Fl.T_pos
    omega
  unfold Ieee.Format.div
  rw [e, e2, Fl.ng_of (by omega)]
  simp only [Ieee.Datum.quotient, if_true, if_neg hm0, Bool.false_xor, Option.map_some]
  rfl

set_option maxRecDepth 100000 in
theorem neg_any (x : Nat) (h : Num x) (w : World) : Calls Try.prog 19 #[.float .f64 x] w fun e w' => e = .returned (.bool (ng x)) ∧ w = w' := by
  have q1 := lt_b h Fl.num_zero
  have q2 := eq_b h Fl.num_zero
  rw [Fl.sv_zero] at q1 q2
  by_cases h1 : sv x < 0
  · rw [decide_eq_true h1] at q1
    have e : ng x = true := by
      unfold sv at h1
      cases hn : ng x
      · rw [hn] at h1; simp only [Bool.false_eq_true, if_false] at h1; omega
      · rfl
    clear q2 h1
    go_enter Try.func19, Try.ntmps19
    go_wp2
    go_ret
    exact ⟨ret_bool e.symm, rfl⟩
  · rw [decide_eq_false h1] at q1
    by_cases h2 : sv x = 0
    · rw [decide_eq_true h2] at q2
      have f1 := fun wx => run_float_arith (P := Try.prog) wx .quo 28 .f64 4607182418800017408 x _ (inv_zero h2)
      have g : Num (Ieee.double.word (ng x) 9218868437227405312) := by unfold Num; rw [Fl.rg_word _ (Nat.le_refl _)]; exact Nat.le_refl _
      have q3 := lt_b g Fl.num_zero
      rw [Fl.sv_zero, Fl.sv_word _ (Nat.le_refl _)] at q3
      have hp : (0 : Int) < Fl.V 9218868437227405312 := by have := Fl.V_pos (show 0 < 9218868437227405312 by omega); omega
      generalize Ieee.double.word (ng x) 9218868437227405312 = y at *
      have q4 : (FloatKind.f64.format.order y 0 == some .lt) = ng x := by
        rw [q3]
        cases ng x
        · simp only [Bool.false_eq_true, if_false]; exact decide_eq_false (by omega)
        · simp only [if_true]; exact decide_eq_true (by omega)
      clear q3 g h1 h2 hp h
      go_enter Try.func19, Try.ntmps19
      go_wp2
      go_ret
      exact ⟨rfl, rfl⟩
    · rw [decide_eq_false h2] at q2
      have e : ng x = false := Fl.ng_pos (by omega)
      clear h1 h2
      go_enter Try.func19, Try.ntmps19
      go_wp2
      go_ret
      exact ⟨ret_bool e.symm, rfl⟩

theorem sameC_num {x y : Nat} (hx : Num x) (hy : Num y) : sameC x y = (decide (sv x = sv y) && (ng x == ng y)) := by
  unfold sameC
  rw [Fl.C_num hx, Fl.C_num hy, Bool.eq_iff_iff]
  cases ng x <;> cases ng y <;> simp <;> omega
theorem sameC_nan {x y : Nat} (hx : ¬ Num x) : sameC x y = isN y := by
  unfold sameC isN
  rw [Fl.C_nan hx]
  cases C y <;> rfl
theorem sameC_nan2 {x y : Nat} (hx : Num x) (hy : ¬ Num y) : sameC x y = false := by
  unfold sameC
  rw [Fl.C_num hx, Fl.C_nan hy]
  rfl

set_option maxRecDepth 100000 in
theorem sameF_any (x y : Nat) (w : World) : Calls Try.prog 12 #[.float .f64 x, .float .f64 y] w fun e w' => e = .returned (.bool (sameC x y)) ∧ w = w' := by
  by_cases hx : Num x
  · by_cases hy : Num y
    · have ex := isN_num hx
      have ey := isN_num hy
      have q1 := eq_b hx hy
      have hs := sameC_num hx hy
      by_cases h1 : sv x = sv y
      · rw [decide_eq_true h1] at q1 hs
        have HS : Hid (sameC x y = (true && (ng x == ng y))) := hs
        clear hs h1
        go_enter Try.func12, Try.ntmps12
        go_wp2_with fail
        refine (nan_any x _).mono ?_
        rintro e w' ⟨rfl, rfl⟩
        rw [ex]
        go_wp2_with fail
        refine (nan_any y _).mono ?_
        rintro e w' ⟨rfl, rfl⟩
        rw [ey]
        go_wp2_with fail
        refine (neg_any x hx _).mono ?_
        rintro e w' ⟨rfl, rfl⟩
        go_wp2_with fail
        refine (neg_any y hy _).mono ?_
        rintro e w' ⟨rfl, rfl⟩
        generalize ng x = b1 at *
        generalize ng y = b2 at *
        go_wp2
        go_ret
        exact ⟨ret_bool (by rw [HS.out]; cases b1 <;> cases b2 <;> rfl), rfl⟩
      · rw [decide_eq_false h1] at q1 hs
        have HS : Hid (sameC x y = (false && (ng x == ng y))) := hs
        clear hs h1
        go_enter Try.func12, Try.ntmps12
        go_wp2_with fail
        refine (nan_any x _).mono ?_
        rintro e w' ⟨rfl, rfl⟩
        rw [ex]
        go_wp2_with fail
        refine (nan_any y _).mono ?_
        rintro e w' ⟨rfl, rfl⟩
        rw [ey]
        go_wp2
        go_ret
        exact ⟨ret_bool (by rw [HS.out]; rfl), rfl⟩
    · have ex := isN_num hx
      have ey := isN_nan hy
      have HS : Hid (sameC x y = false) := sameC_nan2 hx hy
      clear hx hy
      go_enter Try.func12, Try.ntmps12
      go_wp2_with fail
      refine (nan_any x _).mono ?_
      rintro e w' ⟨rfl, rfl⟩
      rw [ex]
      go_wp2_with fail
      refine (nan_any y _).mono ?_
      rintro e w' ⟨rfl, rfl⟩
      rw [ey]
      go_wp2_with fail
      refine (nan_any x _).mono ?_
      rintro e w' ⟨rfl, rfl⟩
      rw [ex]
      go_wp2
      go_ret
      exact ⟨ret_bool HS.out.symm, rfl⟩
  · have ex := isN_nan hx
    have HS : Hid (sameC x y = isN y) := sameC_nan hx
    clear hx
    go_enter Try.func12, Try.ntmps12
    go_wp2_with fail
    refine (nan_any x _).mono ?_
    rintro e w' ⟨rfl, rfl⟩
    rw [ex]
    go_wp2_with fail
    refine (nan_any x _).mono ?_
    rintro e w' ⟨rfl, rfl⟩
    rw [ex]
    go_wp2_with fail
    refine (nan_any y _).mono ?_
    rintro e w' ⟨rfl, rfl⟩
    go_wp2
    go_ret
    exact ⟨ret_bool HS.out.symm, rfl⟩
theorem sameF_q (x y : Nat) (w : World) : Calls Try.prog 12 #[.float .f64 x, .float .f64 y] w fun e w' => e = .returned (.bool (sameC x y)) ∧ w' = w := (sameF_any x y w).mono fun _ _ ⟨h1, h2⟩ => ⟨h1, h2.symm⟩

theorem map_getD {A D : List Nat} (h : A.map C = D.map C) {k : Nat} (hk : k < A.length) : sameC (A.getD k 0) (D.getD k 0) = true := by
  have hl : A.length = D.length := by have := congrArg List.length h; simpa using this
  have h2 := congrArg (fun L => L[k]?) h
  simp only [List.getElem?_map] at h2
  rw [List.getElem?_eq_getElem hk, List.getElem?_eq_getElem (by omega)] at h2
  simp only [Option.map_some, Option.some.injEq] at h2
  unfold sameC
  simp [List.getD, hk, show k < D.length by omega, h2]

theorem drewN_add (w : World) (m n : Nat) : (w.drewN m).drewN n = w.drewN (m + n) := by
  simp [World.drewN, Nat.add_assoc]

set_option maxRecDepth 100000 in
set_option maxHeartbeats 1000000 in
/-- sameSlice of two rows of one class: yes. -/
theorem sameS_any (A D : List Nat) (a d : Option Addr) (B0 na nd ca cd : Nat) (w : World) (ha : A.length = na) (hd : D.length = nd) (hl : na ≤ 1048576) (h : A.map C = D.map C) (rA : Reads B0 w a A) (rD : Reads B0 w d D) :
    Calls Try.prog 9 #[.slice a na ca, .slice d nd cd] w fun e w' => e = .returned (.bool true) ∧ ∃ m, w' = w.drewN m := by
  have hlen : A.length = D.length := by have := congrArg List.length h; simpa using this
  have hnd : nd = na := by omega
  subst hnd
  have HAL : Hid (A.length = nd) := ha
  have HDL : Hid (D.length = nd) := hd
  have HM : Hid (A.map C = D.map C) := h
  clear ha hd h hlen
  by_cases h0 : nd = 0
  · subst h0
    clear rA rD
    go_enter Try.func9, Try.ntmps9
    go_wp2
    refine wp_loop_rounds 1 ?_
    rw [rounds_succ]
    go_wp2
    go_ret
    exact ⟨rfl, 0, rfl⟩
  obtain ⟨b1, o1, rfl, _, hc1⟩ := rA.resolve_left (by rintro rfl; have := HAL.out; simp at this; omega)
  obtain ⟨b2, o2, rfl, _, hc2⟩ := rD.resolve_left (by rintro rfl; have := HDL.out; simp at this; omega)
  have HC1 : Hid (∀ j, j < A.length → w.cell? ⟨b1, o1 + j, none⟩ = some (.float .f64 (A.getD j 0))) := hc1
  have HC2 : Hid (∀ j, j < D.length → w.cell? ⟨b2, o2 + j, none⟩ = some (.float .f64 (D.getD j 0))) := hc2
  clear hc1 hc2 rA rD
  go_enter Try.func9, Try.ntmps9
  go_wp2
  go_loopw [5] (fun i wr => ∃ k : Nat, k ≤ nd ∧ i = .int .i64 k ∧ Hid (∃ m, wr = w.drewN m)) (fun i _ => nd - (intOf i).toNat)
  case atStart => exact ⟨0, Nat.zero_le _, rfl, 0, rfl⟩
  case round =>
    obtain ⟨k, hk, rfl, HW⟩ := hrel
    by_cases hlt : k < nd
    · have hcx : wr.cell? ⟨b1, o1 + k, none⟩ = some (.float .f64 (A.getD k 0)) := by obtain ⟨m, rfl⟩ := HW; exact HC1.out k (by rw [HAL.out]; exact hlt)
      have hcy : wr.cell? ⟨b2, o2 + k, none⟩ = some (.float .f64 (D.getD k 0)) := by obtain ⟨m, rfl⟩ := HW; exact HC2.out k (by rw [HDL.out]; exact hlt)
      have hs := map_getD HM.out (k := k) (by rw [HAL.out]; exact hlt)
      generalize A.getD k 0 = x at *
      generalize D.getD k 0 = y at *
      have hki : (k : Int) < (nd : Int) := by omega
      go_wp2
      go_quiet ((go_at_call 12; exact Calls.quiet_of_same (sameF_q _ _ _)))
      have HW2 : Hid (∃ m, wr.drewN nq = w.drewN m) := by
        obtain ⟨m, rfl⟩ := HW
        exact ⟨m + nq, drewN_add w m nq⟩
      go_wp2
      go_roundw
      case rel => exact ⟨k + 1, by omega, by go_num, HW2⟩
      case measure => simp [intOf]; omega
    · go_wp2
      go_ret
      exact ⟨rfl, HW⟩
end Go.Proofs.Qxb6619316a
