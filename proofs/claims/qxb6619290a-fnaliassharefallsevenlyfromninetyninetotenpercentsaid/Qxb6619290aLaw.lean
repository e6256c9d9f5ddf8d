/-
  THE PLAIN LAW of the alias share: no Go in sight. What the chain float64(x), 0.89 * x, / 3,600,000, 0.99 - x comes to; it is monotone, lies between its two ends, and falls evenly within 1e-12.
-/
import Derived.Test.Qxb6619290aFloatWords
namespace Go.Proofs.Qxb6619290a.Fl
open Ieee
set_option linter.unusedVariables false

/-- 2 ^ -92, in units of 2 ^ -1074. -/
def E : Nat := pw 982
theorem E_eq (c : Nat) (hc : c = 982) : E = 2 ^ c := by show pw 982 = pw c; rw [hc]
theorem E_big : 1152921504606846976 ≤ E := by
  obtain ⟨c, hc⟩ : ∃ c : Nat, c = 982 := ⟨_, rfl⟩
  rw [E_eq c hc]
  have := pow_le_of (show 60 ≤ c by omega)
  have a : (2 : Nat) ^ 60 = 1152921504606846976 := by decide
  omega
theorem T_E : T = 4951760157141521099596496896 * E := by
  obtain ⟨c, hc⟩ : ∃ c : Nat, c = 982 := ⟨_, rfl⟩
  rw [E_eq c hc, T_eq (92 + c) (by omega), Nat.pow_add]

theorem V_const (r e k f u c : Nat) (hr : r = e * 4503599627370496 + k) (h1 : 4503599627370496 ≤ k) (h2 : k < 2 * 4503599627370496) (he : e = f + 982) (hu : 2 ^ f = u) (hc : k * u = c) : V r = c * E := by
  obtain ⟨d, hd⟩ : ∃ d : Nat, d = 982 := ⟨_, rfl⟩
  rw [hr, V_at e k h1 h2, he, E_eq d hd, ← hd, Nat.pow_add, hu, ← hc, Nat.mul_assoc]

theorem V99 : V 4607092346807469998 = 4902242555570105844620066816 * E := V_const 4607092346807469998 1021 8917127262193582 39 549755813888 4902242555570105844620066816 (by omega) (by omega) (by omega) (by omega) (by decide) (by decide)
theorem V10 : V 4591870180066957722 = 495176015714152137447440384 * E := V_const 4591870180066957722 1018 7205759403792794 36 68719476736 495176015714152137447440384 (by omega) (by omega) (by omega) (by omega) (by decide) (by decide)
theorem V89 : V 4606191626881995899 = 4407066539855953844611579904 * E := V_const 4606191626881995899 1021 8016407336719483 39 549755813888 4407066539855953844611579904 (by omega) (by omega) (by omega) (by omega) (by decide) (by decide)
theorem V36 : V 4704985352480227328 = 3600000 * T := by
  rw [V_const 4704985352480227328 1043 7730941132800000 61 2305843009213693952 17826336565709475958547388825600000 (by omega) (by omega) (by omega) (by omega) (by decide) (by decide), T_E]
  generalize E = e
  omega
theorem Veps : V 4427486594234968593 = 4951760157141521 * E := V_const 4427486594234968593 982 4951760157141521 0 1 4951760157141521 (by omega) (by omega) (by omega) (by omega) (by decide) (by decide)
theorem V_one : V 4607182418800017408 = T := by
  rw [V_const 4607182418800017408 1022 4503599627370496 40 1099511627776 4951760157141521099596496896 (by omega) (by omega) (by omega) (by omega) (by decide) (by decide), T_E]
theorem V_22 : V 4706261610602168320 = 4194304 * T := by
  rw [V_const 4706261610602168320 1044 4503599627370496 62 4611686018427387904 20769187434139310514121985316880384 (by omega) (by omega) (by omega) (by omega) (by decide) (by decide), T_E]
  generalize E = e
  omega

/-! ### the arithmetic of the errors, over plain numbers -/
theorem ar1u (X V1 E : Nat) (hE : 1152921504606846976 ≤ E) (hV : V1 ≤ 4194304 * (4951760157141521099596496896 * E)) (h : 2 * 4503599627370496 * (V1 * 1) ≤ 2 * 4503599627370496 * (4951760157141521099596496896 * X) + (V1 + 4503599627370496) * 1) : V1 ≤ 4951760157141521099596496896 * X + 4611686018427387904 * E := by omega
theorem ar1l (X V1 E : Nat) (hE : 1152921504606846976 ≤ E) (hV : V1 ≤ 4194304 * (4951760157141521099596496896 * E)) (h : 2 * 4503599627370496 * (4951760157141521099596496896 * X) ≤ 2 * 4503599627370496 * (V1 * 1) + (V1 + 4503599627370496) * 1) : 4951760157141521099596496896 * X ≤ V1 + 4611686018427387904 * E := by omega
theorem ar2u (V1 V2 E : Nat) (hE : 1152921504606846976 ≤ E) (hV : V2 ≤ 4194304 * (4951760157141521099596496896 * E)) (h : 2 * 4503599627370496 * (V2 * 4951760157141521099596496896) ≤ 2 * 4503599627370496 * (4407066539855953844611579904 * V1) + (V2 + 4503599627370496) * 4951760157141521099596496896) : 4951760157141521099596496896 * V2 ≤ 4407066539855953844611579904 * V1 + 4951760157141521099596496896 * (4611686018427387904 * E) := by omega
theorem ar2l (V1 V2 E : Nat) (hE : 1152921504606846976 ≤ E) (hV : V2 ≤ 4194304 * (4951760157141521099596496896 * E)) (h : 2 * 4503599627370496 * (4407066539855953844611579904 * V1) ≤ 2 * 4503599627370496 * (V2 * 4951760157141521099596496896) + (V2 + 4503599627370496) * 4951760157141521099596496896) : 4407066539855953844611579904 * V1 ≤ 4951760157141521099596496896 * V2 + 4951760157141521099596496896 * (4611686018427387904 * E) := by omega
theorem ar2b (X V1 V2 E : Nat) (hX : X ≤ 3600000 * E) (h1 : V1 ≤ 4951760157141521099596496896 * X + 4611686018427387904 * E) (h2 : 4951760157141521099596496896 * V2 ≤ 4407066539855953844611579904 * V1 + 4951760157141521099596496896 * (4611686018427387904 * E)) : V2 ≤ 3600000 * (4951760157141521099596496896 * E) := by omega
theorem ar3u (V2 V3 E : Nat) (hE : 1152921504606846976 ≤ E) (hV : V3 ≤ 4951760157141521099596496896 * E) (h : 2 * 4503599627370496 * (V3 * 3600000) ≤ 2 * 4503599627370496 * V2 + (V3 + 4503599627370496) * 3600000) : 3600000 * V3 ≤ V2 + 3600000 * (1099511627776 * E) := by omega
theorem ar3l (V2 V3 E : Nat) (hE : 1152921504606846976 ≤ E) (hV : V3 ≤ 4951760157141521099596496896 * E) (h : 2 * 4503599627370496 * V2 ≤ 2 * 4503599627370496 * (V3 * 3600000) + (V3 + 4503599627370496) * 3600000) : V2 ≤ 3600000 * V3 + 3600000 * (1099511627776 * E) := by omega
theorem ar4u (X V1 V2 V3 E : Nat) (h1 : V1 ≤ 4951760157141521099596496896 * X + 4611686018427387904 * E) (h2 : 4951760157141521099596496896 * V2 ≤ 4407066539855953844611579904 * V1 + 4951760157141521099596496896 * (4611686018427387904 * E)) (h3 : 3600000 * V3 ≤ V2 + 3600000 * (1099511627776 * E)) : 3600000 * V3 ≤ 4407066539855953844611579904 * X + 18446744073709551616 * E := by omega
theorem ar4l (X V1 V2 V3 E : Nat) (h1 : 4951760157141521099596496896 * X ≤ V1 + 4611686018427387904 * E) (h2 : 4407066539855953844611579904 * V1 ≤ 4951760157141521099596496896 * V2 + 4951760157141521099596496896 * (4611686018427387904 * E)) (h3 : V2 ≤ 3600000 * V3 + 3600000 * (1099511627776 * E)) : 4407066539855953844611579904 * X ≤ 3600000 * V3 + 18446744073709551616 * E := by omega

/-- The chain float64(x), 0.89 * it, that / 3,600,000, in rungs (E, T letters, so that nothing is reckoned). -/
theorem chain_gen {E T x r1 r2 r3 : Nat} (hE : 1152921504606846976 ≤ E) (T_E : T = 4951760157141521099596496896 * E) (V89 : V 4606191626881995899 = 4407066539855953844611579904 * E) (V36 : V 4704985352480227328 = 3600000 * T) (V_one : V 4607182418800017408 = T) (V_22 : V 4706261610602168320 = 4194304 * T)
    (hx : x ≤ 3600000) (h1 : Near r1 (x * T) 1) (h2 : Near r2 (V 4606191626881995899 * V r1) T) (h3 : Near r3 (V r2 * T) (V 4704985352480227328)) :
    r1 ≤ 4706261610602168320 ∧ r2 ≤ 4706261610602168320 ∧ r3 ≤ 4607182418800017408 ∧ 3600000 * V r3 ≤ 4407066539855953844611579904 * (x * E) + 18446744073709551616 * E ∧ 4407066539855953844611579904 * (x * E) ≤ 3600000 * V r3 + 18446744073709551616 * E := by
  have hX : x * E ≤ 3600000 * E := Nat.mul_le_mul_right _ hx
  have hxT : x * T = 4951760157141521099596496896 * (x * E) := by rw [T_E, Nat.mul_left_comm]
  rw [hxT] at h1
  have b1 : r1 ≤ 4706261610602168320 := h1.le_of (by omega) (by rw [V_22, T_E]; omega)
  have v1 : V r1 ≤ 4194304 * (4951760157141521099596496896 * E) := by have := V_le b1; rw [V_22, T_E] at this; exact this
  have h2' : Near r2 (4407066539855953844611579904 * V r1) 4951760157141521099596496896 := h2.same (by omega) (by rw [V89, T_E]; ac_rfl)
  have b2 : r2 ≤ 4706261610602168320 := h2'.le_of (by omega) (by rw [V_22, T_E]; omega)
  have v2 : V r2 ≤ 4194304 * (4951760157141521099596496896 * E) := by have := V_le b2; rw [V_22, T_E] at this; exact this
  have h3' : Near r3 (V r2) 3600000 := h3.same (by omega) (by rw [V36]; ac_rfl)
  have u1 := ar1u (x * E) (V r1) E hE v1 h1.err_lo
  have l1 := ar1l (x * E) (V r1) E hE v1 (h1.err_up (by omega))
  have u2 := ar2u (V r1) (V r2) E hE v2 h2'.err_lo
  have l2 := ar2l (V r1) (V r2) E hE v2 (h2'.err_up (by omega))
  have w2 := ar2b (x * E) (V r1) (V r2) E hX u1 u2
  have b3 : r3 ≤ 4607182418800017408 := h3'.le_of (by omega) (by rw [V_one, T_E]; omega)
  have v3 : V r3 ≤ 4951760157141521099596496896 * E := by have := V_le b3; rw [V_one, T_E] at this; exact this
  have u3 := ar3u (V r2) (V r3) E hE v3 h3'.err_lo
  have l3 := ar3l (V r2) (V r3) E hE v3 (h3'.err_up (by omega))
  exact ⟨b1, b2, b3, ar4u _ _ _ _ _ u1 u2 u3, ar4l _ _ _ _ _ l1 l2 l3⟩

theorem chain {x r1 r2 r3 : Nat} (hx : x ≤ 3600000) (h1 : Near r1 (x * T) 1) (h2 : Near r2 (V 4606191626881995899 * V r1) T) (h3 : Near r3 (V r2 * T) (V 4704985352480227328)) :
    r1 ≤ 4706261610602168320 ∧ r2 ≤ 4706261610602168320 ∧ r3 ≤ 4607182418800017408 ∧ 3600000 * V r3 ≤ 4407066539855953844611579904 * (x * E) + 18446744073709551616 * E ∧ 4407066539855953844611579904 * (x * E) ≤ 3600000 * V r3 + 18446744073709551616 * E :=
  chain_gen E_big T_E V89 V36 V_one V_22 hx h1 h2 h3

/-! ### the words of the chain -/
theorem rg_of {r : Nat} (h : r < 9223372036854775808) : rg r = r := by unfold rg; exact Nat.mod_eq_of_lt h
theorem ng_of {r : Nat} (h : r < 9223372036854775808) : ng r = false := by
  unfold ng
  rw [Nat.div_eq_of_lt h]
  rfl
theorem sv_of {r : Nat} (h : r < 9223372036854775808) : sv r = (V r : Int) := by
  unfold sv
  rw [ng_of h, rg_of h]
  simp
theorem word_pos (r : Nat) : double.word false r = r := rfl

/-- The three operations ahead of the subtraction, on a number and its sign: the words exist; what they are. -/
theorem quo_words (n : Int) (hn : n.natAbs ≤ 3600000) :
    ∃ r1 r2 r3, FloatKind.f64.nearest n = double.word (decide (n < 0)) r1 ∧ double.mul 4606191626881995899 (double.word (decide (n < 0)) r1) = some (double.word (decide (n < 0)) r2) ∧ double.div (double.word (decide (n < 0)) r2) 4704985352480227328 = some (double.word (decide (n < 0)) r3) ∧
      Near r1 (n.natAbs * T) 1 ∧ Near r2 (V 4606191626881995899 * V r1) T ∧ Near r3 (V r2 * T) (V 4704985352480227328) ∧ r1 ≤ 4706261610602168320 ∧ r2 ≤ 4706261610602168320 ∧ r3 ≤ 4607182418800017408 ∧
      3600000 * V r3 ≤ 4407066539855953844611579904 * (n.natAbs * E) + 18446744073709551616 * E ∧ 4407066539855953844611579904 * (n.natAbs * E) ≤ 3600000 * V r3 + 18446744073709551616 * E := by
  obtain ⟨r1, e1, h1⟩ := int_near n
  have i1 := h1.le
  have g1 : r1 ≤ 4706261610602168320 := by
    refine h1.le_of (by omega) ?_
    rw [V_22]
    have := Nat.mul_le_mul_right T hn
    have := T_pos
    generalize T = t at *
    omega
  have q89 : rg 4606191626881995899 = 4606191626881995899 := rg_of (by omega)
  have s89 : ng 4606191626881995899 = false := ng_of (by omega)
  have q36 : rg 4704985352480227328 = 4704985352480227328 := rg_of (by omega)
  have s36 : ng 4704985352480227328 = false := ng_of (by omega)
  have w1 := rg_word (decide (n < 0)) i1
  have n1 := ng_word (decide (n < 0)) i1
  obtain ⟨r2, e2, h2⟩ := mul_near (x := 4606191626881995899) (y := double.word (decide (n < 0)) r1) (by omega) (by omega)
  rw [q89, w1] at h2
  rw [s89, n1, Bool.false_xor] at e2
  have i2 := h2.le
  have g2 : r2 ≤ 4706261610602168320 := by
    refine h2.le_of (by omega) ?_
    rw [V_22]
    have v1 := V_le g1
    rw [V_22] at v1
    have v89 : V 4606191626881995899 ≤ T := by rw [← V_one]; exact V_le (by omega)
    calc V 4606191626881995899 * V r1 ≤ T * (4194304 * T) := Nat.mul_le_mul v89 v1
      _ = 4194304 * T * T := by rw [Nat.mul_comm]
  have w2 := rg_word (decide (n < 0)) i2
  have n2 := ng_word (decide (n < 0)) i2
  obtain ⟨r3, e3, h3⟩ := div_near (x := double.word (decide (n < 0)) r2) (y := 4704985352480227328) (by omega) (by omega) (by omega)
  rw [q36, w2] at h3
  rw [s36, n2, Bool.xor_false] at e3
  obtain ⟨c1, c2, c3, c4, c5⟩ := chain hn h1 h2 h3
  exact ⟨r1, r2, r3, e1, e2, e3, h1, h2, h3, c1, c2, c3, c4, c5⟩

/-! ### a difference of two floats, and how far off it is -/
theorem ar5 (V8 N E : Nat) (hE : 1152921504606846976 ≤ E) (hV : V8 ≤ 4951760157141521099596496896 * E) (hl : 2 * 4503599627370496 * (V8 * 1) ≤ 2 * 4503599627370496 * N + (V8 + 4503599627370496) * 1) (hu : 2 * 4503599627370496 * N ≤ 2 * 4503599627370496 * (V8 * 1) + (V8 + 4503599627370496) * 1) : V8 ≤ N + 1099511627776 * E ∧ N ≤ V8 + 1099511627776 * E := by omega

theorem sub_err {x y : Nat} (hx : rg x < 9218868437227405312) (hy : rg y < 9218868437227405312) (hb : (sv x - sv y).natAbs ≤ T) :
    ∃ neg r, double.sub x y = some (double.word neg r) ∧ r ≤ 4607182418800017408 ∧ Near r (sv x - sv y).natAbs 1 ∧ (0 ≤ sv x - sv y → sv (double.word neg r) = V r) ∧ (sv x - sv y < 0 → neg = true) ∧
      sv (double.word neg r) ≤ sv x - sv y + 1099511627776 * (E : Int) ∧ sv x - sv y ≤ sv (double.word neg r) + 1099511627776 * (E : Int) := by
  obtain ⟨neg, r, e, hN, hn, hp⟩ := sub_near hx hy
  have hr : r ≤ 4607182418800017408 := hN.le_of (by omega) (by rw [V_one]; omega)
  have hV : V r ≤ 4951760157141521099596496896 * E := by have := V_le hr; rw [V_one, T_E] at this; exact this
  obtain ⟨a1, a2⟩ := ar5 (V r) _ E E_big hV hN.err_lo (hN.err_up (by omega))
  have hw := sv_word neg hN.le
  refine ⟨neg, r, e, hr, hN, ?_, hn, ?_⟩
  · intro h0
    by_cases hz : sv x - sv y = 0
    · rw [hz] at hN
      have r0 : r = 0 := hN.eq_of (by omega) (by rw [V_zero]; rfl)
      rw [hw, r0, V_zero]
      cases neg <;> rfl
    · rw [hw, hp (by omega)]
      rfl
  · have hE := E_big
    by_cases h0 : sv x - sv y < 0
    · rw [hw, hn h0]
      simp only [if_true]
      omega
    · by_cases hz : sv x - sv y = 0
      · rw [hz] at hN
        have r0 : r = 0 := hN.eq_of (by omega) (by rw [V_zero]; rfl)
        rw [hw, r0, V_zero, hz]
        cases neg <;> simp <;> omega
      · rw [hw, hp (by omega)]
        simp only [Bool.false_eq_true, if_false]
        omega

/-! ### the share -/
def mid (n : Int) : Nat := (double.sub 4607092346807469998 ((double.div ((double.mul 4606191626881995899 (FloatKind.f64.nearest (n - 400000))).getD 0) 4704985352480227328).getD 0)).getD 0
def share (n : Int) : Nat := if n ≤ 400000 then 4607092346807469998 else if 4000000 ≤ n then 4591870180066957722 else mid n

theorem ar6 (X V3 E : Nat) (hE : 1152921504606846976 ≤ E) (hX : X ≤ 3599999 * E) (h : 3600000 * V3 ≤ 4407066539855953844611579904 * X + 18446744073709551616 * E) : V3 + 495176015714152137447440384 * E ≤ 4902242555570105844620066816 * E := by omega

theorem mid_words (n : Int) (h1 : 400000 < n) (h2 : n < 4000000) :
    ∃ r1 r2 r3 r4, FloatKind.f64.nearest (n - 400000) = r1 ∧ double.mul 4606191626881995899 r1 = some r2 ∧ double.div r2 4704985352480227328 = some r3 ∧ double.sub 4607092346807469998 r3 = some r4 ∧ mid n = r4 ∧
      Near r1 ((n - 400000).natAbs * T) 1 ∧ Near r2 (V 4606191626881995899 * V r1) T ∧ Near r3 (V r2 * T) (V 4704985352480227328) ∧ V r3 ≤ V 4607092346807469998 ∧ Near r4 (V 4607092346807469998 - V r3) 1 ∧ 4591870180066957722 ≤ r4 ∧ r4 ≤ 4607092346807469998 ∧
      (V r4 : Int) ≤ V 4607092346807469998 - V r3 + 1099511627776 * (E : Int) ∧ (V 4607092346807469998 : Int) - V r3 ≤ V r4 + 1099511627776 * (E : Int) ∧
      3600000 * V r3 ≤ 4407066539855953844611579904 * ((n - 400000).natAbs * E) + 18446744073709551616 * E ∧ 4407066539855953844611579904 * ((n - 400000).natAbs * E) ≤ 3600000 * V r3 + 18446744073709551616 * E := by
  obtain ⟨r1, r2, r3, e1, e2, e3, n1, n2, n3, b1, b2, b3, c4, c5⟩ := quo_words (n - 400000) (by omega)
  rw [show decide (n - 400000 < 0) = false from by simp; omega] at e1 e2 e3
  rw [word_pos] at e1
  rw [word_pos, word_pos] at e2 e3
  have hE := E_big
  have hXE : (n - 400000).natAbs * E ≤ 3599999 * E := Nat.mul_le_mul_right _ (by omega)
  have a6 := ar6 _ _ E hE hXE c4
  have s99 : sv 4607092346807469998 = (V 4607092346807469998 : Int) := sv_of (by omega)
  have s3 : sv r3 = (V r3 : Int) := sv_of (by omega)
  have q99 : rg 4607092346807469998 = 4607092346807469998 := rg_of (by omega)
  have q3 : rg r3 = r3 := rg_of (by omega)
  have hT : V 4607092346807469998 ≤ T := by rw [← V_one]; exact V_le (by omega)
  have h3le : V r3 ≤ V 4607092346807469998 := by rw [V99]; omega
  obtain ⟨neg, r4, e4, b4, n4, p4, _, u4, l4⟩ := sub_err (x := 4607092346807469998) (y := r3) (by omega) (by omega) (by rw [s99, s3]; omega)
  have hneg : neg = false := by
    by_cases hc : neg = false
    · exact hc
    · have ht : neg = true := by cases neg <;> simp_all
      have := p4 (by rw [s99, s3]; omega)
      rw [sv_word neg n4.le, ht] at this
      simp only [if_true] at this
      have v0 : V r4 = 0 := by omega
      rw [s99, s3] at l4
      rw [sv_word neg n4.le, ht] at l4
      simp only [if_true] at l4
      rw [V99] at l4
      omega
  subst hneg
  rw [word_pos] at e4
  have hs4 : sv (double.word false r4) = (V r4 : Int) := by rw [sv_word false n4.le]; rfl
  rw [hs4, s99, s3] at u4 l4
  have hab : (sv 4607092346807469998 - sv r3).natAbs = V 4607092346807469998 - V r3 := by rw [s99, s3]; omega
  rw [hab] at n4
  refine ⟨r1, r2, r3, r4, e1, e2, e3, e4, ?_, n1, n2, n3, h3le, n4, ?_, ?_, u4, l4, c4, c5⟩
  · unfold mid
    rw [e1, e2, Option.getD_some, e3, Option.getD_some, e4, Option.getD_some]
  · exact n4.ge_of (by omega) (by rw [V10, V99]; omega)
  · exact n4.le_of (by omega) (by omega)

theorem share_range (n : Int) : 4591870180066957722 ≤ share n ∧ share n ≤ 4607092346807469998 := by
  unfold share
  by_cases h1 : n ≤ 400000
  · rw [if_pos h1]; omega
  · rw [if_neg h1]
    by_cases h2 : 4000000 ≤ n
    · rw [if_pos h2]; omega
    · rw [if_neg h2]
      obtain ⟨_, _, _, r4, _, _, _, _, e, _, _, _, _, _, b1, b2, _⟩ := mid_words n (by omega) (by omega)
      omega

theorem share_mono {n m : Int} (h : n ≤ m) : share m ≤ share n := by
  have rn := share_range n
  have rm := share_range m
  by_cases h1 : n ≤ 400000
  · have : share n = 4607092346807469998 := by unfold share; rw [if_pos h1]
    omega
  · by_cases h2 : 4000000 ≤ m
    · have : share m = 4591870180066957722 := by unfold share; rw [if_neg (by omega), if_pos h2]
      omega
    · have en : share n = mid n := by unfold share; rw [if_neg h1, if_neg (by omega)]
      have em : share m = mid m := by unfold share; rw [if_neg (by omega), if_neg h2]
      obtain ⟨r1, r2, r3, r4, _, _, _, _, e, n1, n2, n3, l3, n4, _⟩ := mid_words n (by omega) (by omega)
      obtain ⟨s1, s2, s3, s4, _, _, _, _, e', m1, m2, m3, k3, m4, _⟩ := mid_words m (by omega) (by omega)
      rw [en, em, e, e']
      have g1 : r1 ≤ s1 := n1.mono m1 (by rw [Nat.mul_one, Nat.mul_one]; exact Nat.mul_le_mul_right _ (by omega))
      have g2 : r2 ≤ s2 := n2.mono m2 (Nat.mul_le_mul_right _ (Nat.mul_le_mul_left _ (V_le g1)))
      have g3 : r3 ≤ s3 := n3.mono m3 (Nat.mul_le_mul_right _ (Nat.mul_le_mul_right _ (V_le g2)))
      have v3 := V_le g3
      exact m4.mono n4 (by omega)

theorem ar7 (X E V3 V4 : Nat) (hu : (V4 : Int) ≤ 4902242555570105844620066816 * (E : Int) - V3 + 1099511627776 * (E : Int)) (hl : 4902242555570105844620066816 * (E : Int) - V3 ≤ V4 + 1099511627776 * (E : Int))
    (h1 : 3600000 * V3 ≤ 4407066539855953844611579904 * X + 18446744073709551616 * E) (h2 : 4407066539855953844611579904 * X ≤ 3600000 * V3 + 18446744073709551616 * E) :
    3600000 * (4902242555570105844620066816 * (E : Int) - V4) ≤ 4407066539855953844611579904 * (X : Int) + 73786976294838206464 * (E : Int) ∧ 4407066539855953844611579904 * (X : Int) ≤ 3600000 * (4902242555570105844620066816 * (E : Int) - V4) + 73786976294838206464 * (E : Int) := by omega

theorem cast_x (n : Int) (h : 400000 ≤ n) : (((n - 400000).natAbs * E : Nat) : Int) = (n - 400000) * (E : Int) := by
  rw [Int.natCast_mul]
  congr 1
  omega

/-- How far the share is from the straight line. -/
theorem share_line (n : Int) (h1 : 400000 ≤ n) (h2 : n ≤ 4000000) :
    3600000 * (4902242555570105844620066816 * (E : Int) - V (share n)) ≤ 4407066539855953844611579904 * ((n - 400000) * (E : Int)) + 73786976294838206464 * (E : Int) ∧ 4407066539855953844611579904 * ((n - 400000) * (E : Int)) ≤ 3600000 * (4902242555570105844620066816 * (E : Int) - V (share n)) + 73786976294838206464 * (E : Int) := by
  have hE := E_big
  by_cases e1 : n = 400000
  · have : share n = 4607092346807469998 := by unfold share; rw [if_pos (by omega)]
    rw [this, V99, e1]
    omega
  · by_cases e2 : n = 4000000
    · have : share n = 4591870180066957722 := by unfold share; rw [if_neg (by omega), if_pos (by omega)]
      rw [this, V10, e2]
      omega
    · have en : share n = mid n := by unfold share; rw [if_neg (by omega), if_neg (by omega)]
      obtain ⟨r1, r2, r3, r4, _, _, _, _, e, _, _, _, _, _, _, _, u4, l4, c4, c5⟩ := mid_words n (by omega) (by omega)
      rw [en, e]
      rw [V99] at u4 l4
      have := ar7 _ E (V r3) (V r4) (by omega) (by omega) c4 c5
      rw [cast_x n h1] at this
      exact this

/-- The order of two words without a sign is the words' own. -/
theorem order_pos {x y : Nat} (hx : x ≤ 9218868437227405312) (hy : y ≤ 9218868437227405312) : double.order x y = some (compare (V x : Int) (V y : Int)) := by
  have qx : rg x = x := rg_of (by omega)
  have qy : rg y = y := rg_of (by omega)
  rw [order_sv (by omega) (by omega), sv_of (by omega), sv_of (by omega)]
theorem order_lt {x y : Nat} (hx : x ≤ 9218868437227405312) (hy : y ≤ 9218868437227405312) (h : x < y) : double.order x y = some .lt := by
  rw [order_pos hx hy, cmp_lt (by have := V_lt h; omega)]
theorem order_eq {x y : Nat} (hx : x ≤ 9218868437227405312) (h : x = y) : double.order x y = some .eq := by
  rw [order_pos hx (by omega), cmp_eq (by rw [h])]
theorem order_gt {x y : Nat} (hx : x ≤ 9218868437227405312) (hy : y ≤ 9218868437227405312) (h : y < x) : double.order x y = some .gt := by
  rw [order_pos hx hy, cmp_gt (by have := V_lt h; omega)]

theorem ar8 (sa sb W D A Bq E : Int) (hE : 0 ≤ E) (ha1 : 3600000 * (4902242555570105844620066816 * E - sa) ≤ 4407066539855953844611579904 * A + 73786976294838206464 * E) (ha2 : 4407066539855953844611579904 * A ≤ 3600000 * (4902242555570105844620066816 * E - sa) + 73786976294838206464 * E)
    (hb1 : 3600000 * (4902242555570105844620066816 * E - sb) ≤ 4407066539855953844611579904 * Bq + 73786976294838206464 * E) (hb2 : 4407066539855953844611579904 * Bq ≤ 3600000 * (4902242555570105844620066816 * E - sb) + 73786976294838206464 * E)
    (hd1 : D ≤ sa - sb + 1099511627776 * E) (hd2 : sa - sb ≤ D + 1099511627776 * E)
    (hw1 : 3600000 * W ≤ 4407066539855953844611579904 * (Bq - A) + 18446744073709551616 * E) (hw2 : 4407066539855953844611579904 * (Bq - A) ≤ 3600000 * W + 18446744073709551616 * E) :
    D - W ≤ 4951760157141521 * E ∧ -(4951760157141521 * E) ≤ D - W := by omega

theorem want_line (n : Int) (r : Nat) (h1 : 3600000 * V r ≤ 4407066539855953844611579904 * (n.natAbs * E) + 18446744073709551616 * E) (h2 : 4407066539855953844611579904 * (n.natAbs * E) ≤ 3600000 * V r + 18446744073709551616 * E) (hr : r ≤ 9218868437227405312) :
    3600000 * sv (double.word (decide (n < 0)) r) ≤ 4407066539855953844611579904 * (n * (E : Int)) + 18446744073709551616 * (E : Int) ∧ 4407066539855953844611579904 * (n * (E : Int)) ≤ 3600000 * sv (double.word (decide (n < 0)) r) + 18446744073709551616 * (E : Int) := by
  rw [sv_word _ hr]
  by_cases h0 : n < 0
  · have e : n * (E : Int) = -((n.natAbs * E : Nat) : Int) := by
      rw [Int.natCast_mul, show ((n.natAbs : Nat) : Int) = -n from by omega, Int.neg_mul, Int.neg_neg]
    rw [e]
    simp only [h0, decide_true, if_true]
    generalize n.natAbs * E = Y at *
    omega
  · have e : n * (E : Int) = ((n.natAbs * E : Nat) : Int) := by
      rw [Int.natCast_mul, show ((n.natAbs : Nat) : Int) = n from by omega]
    rw [e]
    simp only [h0, decide_false, Bool.false_eq_true, if_false]
    generalize n.natAbs * E = Y at *
    omega

/-- Between the two bounds the share falls evenly, within 1e-12. -/
theorem even_ok (a b : Int) (ha1 : 400000 ≤ a) (ha2 : a ≤ 4000000) (hb1 : 400000 ≤ b) (hb2 : b ≤ 4000000) :
    ∃ p want d1 d, double.mul 4606191626881995899 (FloatKind.f64.nearest (b - a)) = some p ∧ double.div p 4704985352480227328 = some want ∧ double.sub (share a) (share b) = some d1 ∧ double.sub d1 want = some d ∧
      (double.order d 13650858631089744401 == some .lt) = false ∧ (double.order d 4427486594234968593 == some .gt) = false := by
  obtain ⟨r1, r2, r3, e1, e2, e3, _, _, _, _, _, b3, c4, c5⟩ := quo_words (b - a) (by omega)
  have hE := E_big
  have ra := share_range a
  have rb := share_range b
  have qa : rg (share a) = share a := rg_of (by omega)
  have qb : rg (share b) = share b := rg_of (by omega)
  have sa : sv (share a) = (V (share a) : Int) := sv_of (by omega)
  have sb : sv (share b) = (V (share b) : Int) := sv_of (by omega)
  have va : V (share a) ≤ T := by rw [← V_one]; exact V_le (by omega)
  have vb : V (share b) ≤ T := by rw [← V_one]; exact V_le (by omega)
  obtain ⟨n8, r8, e8, b8, m8, _, _, u8, l8⟩ := sub_err (x := share a) (y := share b) (by omega) (by omega) (by rw [sa, sb]; omega)
  obtain ⟨w1, w2⟩ := want_line (b - a) r3 c4 c5 (by omega)
  obtain ⟨la1, la2⟩ := share_line a ha1 ha2
  obtain ⟨lb1, lb2⟩ := share_line b hb1 hb2
  rw [sa, sb] at u8 l8
  have hba : (b - a) * (E : Int) = (b - 400000) * (E : Int) - (a - 400000) * (E : Int) := by rw [← Int.sub_mul]; congr 1; omega
  rw [hba] at w1 w2
  have hd := ar8 (V (share a)) (V (share b)) (sv (double.word (decide (b - a < 0)) r3)) (sv (double.word n8 r8)) ((a - 400000) * (E : Int)) ((b - 400000) * (E : Int)) E (by omega) la1 la2 lb1 lb2 u8 l8 w1 w2
  have g8 := rg_word n8 m8.le
  have g3 := rg_word (decide (b - a < 0)) (show r3 ≤ 9218868437227405312 by omega)
  obtain ⟨n9, r9, e9, m9, _, _⟩ := sub_near (x := double.word n8 r8) (y := double.word (decide (b - a < 0)) r3) (by omega) (by omega)
  have h9 : r9 ≤ 4427486594234968593 := m9.le_of (by omega) (by rw [Veps]; omega)
  have v9 : V r9 ≤ V 4427486594234968593 := V_le h9
  have s9 := sv_word n9 m9.le
  have g9 := rg_word n9 m9.le
  have qe : rg 4427486594234968593 = 4427486594234968593 := rg_of (by omega)
  have se : sv 4427486594234968593 = (V 4427486594234968593 : Int) := sv_of (by omega)
  have qn : rg 13650858631089744401 = 4427486594234968593 := by decide
  have sn : sv 13650858631089744401 = -(V 4427486594234968593 : Int) := by
    unfold sv
    rw [qn, show ng 13650858631089744401 = true from by decide]
    rfl
  have hs : -(V 4427486594234968593 : Int) ≤ sv (double.word n9 r9) ∧ sv (double.word n9 r9) ≤ (V 4427486594234968593 : Int) := by
    rw [s9]
    cases n9
    · simp only [Bool.false_eq_true, if_false]; omega
    · simp only [if_true]; omega
  refine ⟨_, _, _, _, by rw [e1]; exact e2, e3, e8, e9, ?_, ?_⟩
  · rw [order_sv (by omega) (by omega), sn]
    by_cases h : sv (double.word n9 r9) = -(V 4427486594234968593 : Int)
    · rw [cmp_eq h]; rfl
    · rw [cmp_gt (by omega)]; rfl
  · rw [order_sv (by omega) (by omega), se]
    by_cases h : sv (double.word n9 r9) = (V 4427486594234968593 : Int)
    · rw [cmp_eq h]; rfl
    · rw [cmp_lt (by omega)]; rfl
end Go.Proofs.Qxb6619290a.Fl
