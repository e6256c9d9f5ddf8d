/-
  PLAIN FACTS ON float64, MORE: words: what each stands for; the order; sum, difference, product, quotient; a whole number made a float.
-/
import Derived.Test.Qxb6619316aFloatOps
namespace Go.Proofs.Qxb6619316a.Fl
open Ieee

/-- Has the word its sign bit? -/
def ng (x : Nat) : Bool := x / 9223372036854775808 % 2 == 1
/-- The word's rung. -/
def rg (x : Nat) : Nat := x % 9223372036854775808
/-- What the word stands for, in units of 2 ^ -1074 (infinities as the magnitude at their rung). -/
def sv (x : Nat) : Int := if ng x then -(V (rg x) : Int) else (V (rg x) : Int)

theorem read_def (x : Nat) : double.read x = if rg x < 4503599627370496 then .number (ng x) (rg x) (-1074) else if rg x < 9218868437227405312 then .number (ng x) (4503599627370496 + rg x % 4503599627370496) (-1074 + (rg x / 4503599627370496 - 1 : Nat)) else if rg x = 9218868437227405312 then .infinity (ng x) else .nan (ng x) (rg x - 9218868437227405312) := by
  unfold Format.read
  simp only [dbl_sign, dbl_binade, dbl_inf, dbl_least]
  rfl

theorem read_fin {x : Nat} (h : rg x < 9218868437227405312) : ∃ m i, double.read x = .number (ng x) m i ∧ -1074 ≤ i ∧ m * 2 ^ (i + 1074).toNat = V (rg x) := by
  rw [read_def]
  by_cases h1 : rg x < 4503599627370496
  · rw [if_pos h1]
    exact ⟨_, _, rfl, by omega, by rw [V_low h1]; simp⟩
  · rw [if_neg h1, if_pos h]
    refine ⟨_, _, rfl, by omega, ?_⟩
    rw [show (-1074 + ((rg x / 4503599627370496 - 1 : Nat) : Int) + 1074).toNat = rg x / 4503599627370496 - 1 from by omega]
    unfold V
    rw [if_neg h1]

theorem read_inf {x : Nat} (h : rg x = 9218868437227405312) : double.read x = .infinity (ng x) := by
  rw [read_def, if_neg (by omega), if_neg (by omega), if_pos h]

theorem read_nan {x : Nat} (h : 9218868437227405312 < rg x) : double.read x = .nan (ng x) (rg x - 9218868437227405312) := by
  rw [read_def, if_neg (by omega), if_neg (by omega), if_neg (by omega)]

/-! ### the word of a sign and a rung -/
theorem rg_word (neg : Bool) {r : Nat} (h : r ≤ 9218868437227405312) : rg (double.word neg r) = r := by
  unfold Format.word rg
  rw [dbl_sign]
  cases neg <;> simp <;> omega
theorem ng_word (neg : Bool) {r : Nat} (h : r ≤ 9218868437227405312) : ng (double.word neg r) = neg := by
  unfold Format.word ng
  rw [dbl_sign]
  cases neg
  · have : r / 9223372036854775808 % 2 = 0 := by omega
    simp [this]
  · have : (9223372036854775808 + r) / 9223372036854775808 % 2 = 1 := by omega
    simp only [if_true]
    rw [this]
    rfl
theorem sv_word (neg : Bool) {r : Nat} (h : r ≤ 9218868437227405312) : sv (double.word neg r) = if neg then -(V r : Int) else (V r : Int) := by
  unfold sv
  rw [rg_word neg h, ng_word neg h]

/-! ### the order -/
theorem cmp_scale (a b : Int) (c : Nat) (hc : 0 < c) : compare (a * (c : Int)) (b * (c : Int)) = compare a b := by
  have hc' : (0 : Int) < c := by omega
  have h1 : a * (c : Int) < b * c ↔ a < b := Int.mul_lt_mul_right hc'
  have h2 : a * (c : Int) = b * c ↔ a = b := ⟨fun h => Int.eq_of_mul_eq_mul_right (by omega) h, fun h => by rw [h]⟩
  show compareOfLessAndEq (a * (c : Int)) (b * c) = compareOfLessAndEq a b
  unfold compareOfLessAndEq
  simp only [h1, h2]

theorem signed_scale (neg : Bool) (m : Nat) (i base : Int) (h1 : base ≤ i) (h2 : -1074 ≤ base) :
    signed neg m (i - base).toNat * ((2 ^ (base + 1074).toNat : Nat) : Int) = if neg then -((m * 2 ^ (i + 1074).toNat : Nat) : Int) else ((m * 2 ^ (i + 1074).toNat : Nat) : Int) := by
  have e : m <<< (i - base).toNat * 2 ^ (base + 1074).toNat = m * 2 ^ (i + 1074).toNat := by
    rw [Nat.shiftLeft_eq, Nat.mul_assoc, ← Nat.pow_add, show (i - base).toNat + (base + 1074).toNat = (i + 1074).toNat from by omega]
  unfold signed
  cases neg
  · simp only [Bool.false_eq_true, if_false]
    rw [← Int.natCast_mul, e]
  · simp only [if_true]
    rw [Int.neg_mul, ← Int.natCast_mul, e]

theorem fin_lt (x : Nat) (h : rg x < 9218868437227405312) : -(V 9218868437227405312 : Int) < sv x ∧ sv x < (V 9218868437227405312 : Int) := by
  have := V_lt h
  unfold sv
  cases ng x
  · simp only [Bool.false_eq_true, if_false]
    omega
  · simp only [if_true]
    omega

theorem cmp_lt {a b : Int} (h : a < b) : compare a b = .lt := by
  show compareOfLessAndEq a b = _
  unfold compareOfLessAndEq
  rw [if_pos h]
theorem cmp_eq {a b : Int} (h : a = b) : compare a b = .eq := by
  show compareOfLessAndEq a b = _
  unfold compareOfLessAndEq
  rw [if_neg (by omega), if_pos h]
theorem cmp_gt {a b : Int} (h : b < a) : compare a b = .gt := by
  show compareOfLessAndEq a b = _
  unfold compareOfLessAndEq
  rw [if_neg (by omega), if_neg (by omega)]

theorem order_sv {x y : Nat} (hx : rg x ≤ 9218868437227405312) (hy : rg y ≤ 9218868437227405312) : double.order x y = some (compare (sv x) (sv y)) := by
  unfold Format.order
  by_cases fx : rg x < 9218868437227405312
  · obtain ⟨m, i, ex, hi, hm⟩ := read_fin fx
    by_cases fy : rg y < 9218868437227405312
    · obtain ⟨n, j, ey, hj, hn⟩ := read_fin fy
      rw [ex, ey]
      simp only [Datum.order]
      refine congrArg some ?_
      rw [← cmp_scale _ _ (2 ^ (min i j + 1074).toNat) (Nat.two_pow_pos _), signed_scale _ _ _ _ (by omega) (by omega), signed_scale _ _ _ _ (by omega) (by omega), hm, hn]
      rfl
    · have iy : rg y = 9218868437227405312 := by omega
      rw [ex, read_inf iy]
      have hf := fin_lt x fx
      simp only [Datum.order]
      unfold sv at hf ⊢
      rw [iy]
      cases hng : ng y
      · simp only [Bool.false_eq_true, if_false]
        rw [cmp_lt (by exact hf.2)]
      · simp only [if_true]
        rw [cmp_gt (by exact hf.1)]
  · have ix : rg x = 9218868437227405312 := by omega
    rw [read_inf ix]
    by_cases fy : rg y < 9218868437227405312
    · obtain ⟨n, j, ey, hj, hn⟩ := read_fin fy
      rw [ey]
      have hf := fin_lt y fy
      simp only [Datum.order]
      unfold sv at hf ⊢
      rw [ix]
      cases hng : ng x
      · simp only [Bool.false_eq_true, if_false]
        rw [cmp_gt (by exact hf.2)]
      · simp only [if_true]
        rw [cmp_lt (by exact hf.1)]
    · have iy : rg y = 9218868437227405312 := by omega
      rw [read_inf iy]
      have hp : (0 : Int) < V 9218868437227405312 := by have := V_lt (show 0 < 9218868437227405312 by omega); omega
      simp only [Datum.order]
      unfold sv
      rw [ix, iy]
      cases hnx : ng x <;> cases hny : ng y
      · simp only [Bool.false_eq_true, if_false]
        rw [cmp_eq rfl]; rfl
      · simp only [Bool.false_eq_true, if_false, if_true]
        rw [cmp_gt (by omega)]; rfl
      · simp only [Bool.false_eq_true, if_false, if_true]
        rw [cmp_lt (by omega)]; rfl
      · simp only [if_true]
        rw [cmp_eq rfl]; rfl
/-! ### sums and differences of finite words -/
theorem opp_read {y n : Nat} {j : Int} (h : double.read y = .number (ng y) n j) : (double.read y).opposite = .number (!ng y) n j := by rw [h]; rfl

theorem sum_near {s t : Bool} {m n : Nat} {i j : Int} (hi : -1074 ≤ i) (hj : -1074 ≤ j) (a b : Int) (ha : (if s then -((m * 2 ^ (i + 1074).toNat : Nat) : Int) else ((m * 2 ^ (i + 1074).toNat : Nat) : Int)) = a) (hb : (if t then -((n * 2 ^ (j + 1074).toNat : Nat) : Int) else ((n * 2 ^ (j + 1074).toNat : Nat) : Int)) = b) :
    ∃ neg r, ((Datum.number s m i).sum (.number t n j)).map double.write = some (double.word neg r) ∧ Near r (a + b).natAbs 1 ∧ (a + b < 0 → neg = true) ∧ (0 < a + b → neg = false) := by
  have hS := signed_scale s m i (min i j) (by omega) (by omega)
  have hT := signed_scale t n j (min i j) (by omega) (by omega)
  rw [ha] at hS
  rw [hb] at hT
  simp only [Datum.sum, Option.map_some]
  generalize signed s m (i - min i j).toNat = P at *
  generalize signed t n (j - min i j).toNat = R at *
  have hp : 0 < 2 ^ (min i j + 1074).toNat := Nat.two_pow_pos _
  obtain ⟨r, hr, hN⟩ := nearest_near (if P + R = 0 then s && t else decide (P + R < 0)) (P + R).natAbs (min i j)
  have hp2 : (-(min i j + 1074)).toNat = 0 := by omega
  rw [hp2, Nat.pow_zero] at hN
  generalize 2 ^ (min i j + 1074).toNat = c at *
  have hab : a + b = (P + R) * (c : Int) := by rw [Int.add_mul, hS, hT]
  refine ⟨_, r, congrArg some hr, ?_, ?_, ?_⟩
  · rw [hab, Int.natAbs_mul, Int.natAbs_natCast]
    exact hN
  · intro h
    have hneg : P + R < 0 := by
      rw [hab] at h
      by_cases hc : P + R < 0
      · exact hc
      · have := Int.mul_nonneg (show 0 ≤ P + R by omega) (show (0 : Int) ≤ c by omega)
        omega
    rw [if_neg (by omega)]
    simp [hneg]
  · intro h
    have hpos : 0 < P + R := by
      rw [hab] at h
      by_cases hc : 0 < P + R
      · exact hc
      · have := Int.mul_nonneg (show 0 ≤ -(P + R) by omega) (show (0 : Int) ≤ c by omega)
        rw [Int.neg_mul] at this
        omega
    rw [if_neg (by omega)]
    simp
    omega

theorem add_near {x y : Nat} (hx : rg x < 9218868437227405312) (hy : rg y < 9218868437227405312) :
    ∃ neg r, double.add x y = some (double.word neg r) ∧ Near r (sv x + sv y).natAbs 1 ∧ (sv x + sv y < 0 → neg = true) ∧ (0 < sv x + sv y → neg = false) := by
  obtain ⟨m, i, ex, hi, hm⟩ := read_fin hx
  obtain ⟨n, j, ey, hj, hn⟩ := read_fin hy
  unfold Format.add
  rw [ex, ey]
  exact sum_near hi hj _ _ (by rw [hm]; rfl) (by rw [hn]; rfl)

theorem sub_near {x y : Nat} (hx : rg x < 9218868437227405312) (hy : rg y < 9218868437227405312) :
    ∃ neg r, double.sub x y = some (double.word neg r) ∧ Near r (sv x - sv y).natAbs 1 ∧ (sv x - sv y < 0 → neg = true) ∧ (0 < sv x - sv y → neg = false) := by
  obtain ⟨m, i, ex, hi, hm⟩ := read_fin hx
  obtain ⟨n, j, ey, hj, hn⟩ := read_fin hy
  unfold Format.sub
  rw [opp_read ey, ex]
  have e : sv x - sv y = sv x + -sv y := by omega
  rw [e]
  refine sum_near hi hj _ _ (by rw [hm]; rfl) ?_
  rw [hn]
  unfold sv
  cases ng y <;> simp

theorem mul_near {x y : Nat} (hx : rg x < 9218868437227405312) (hy : rg y < 9218868437227405312) :
    ∃ r, double.mul x y = some (double.word (ng x ^^ ng y) r) ∧ Near r (V (rg x) * V (rg y)) T := by
  obtain ⟨m, i, ex, hi, hm⟩ := read_fin hx
  obtain ⟨n, j, ey, hj, hn⟩ := read_fin hy
  unfold Format.mul
  rw [ex, ey]
  simp only [Datum.product, Option.map_some]
  obtain ⟨r, hr, hN⟩ := nearest_near (ng x ^^ ng y) (m * n) (i + j)
  refine ⟨r, congrArg some hr, hN.same T_pos ?_⟩
  rw [← hm, ← hn]
  obtain ⟨c, hc⟩ : ∃ c : Nat, c = 1074 := ⟨_, rfl⟩
  rw [T_eq c hc]
  generalize hp1 : (i + j + 1074).toNat = p1
  generalize hp2 : (-(i + j + 1074)).toNat = p2
  generalize hp3 : (i + 1074).toNat = p3
  generalize hp4 : (j + 1074).toNat = p4
  have hx : p1 + c = p3 + p4 + p2 := by omega
  calc m * n * 2 ^ p1 * 2 ^ c = m * n * (2 ^ p1 * 2 ^ c) := by ac_rfl
    _ = m * n * (2 ^ p3 * 2 ^ p4 * 2 ^ p2) := by rw [← Nat.pow_add, ← Nat.pow_add, ← Nat.pow_add, hx]
    _ = m * 2 ^ p3 * (n * 2 ^ p4) * 2 ^ p2 := by ac_rfl

theorem V_pos {r : Nat} (h : 0 < r) : 0 < V r := by have := V_lt h; omega
theorem V_zero : V 0 = 0 := rfl

theorem div_near {x y : Nat} (hx : rg x < 9218868437227405312) (hy : rg y < 9218868437227405312) (h0 : 0 < rg y) :
    ∃ r, double.div x y = some (double.word (ng x ^^ ng y) r) ∧ Near r (V (rg x) * T) (V (rg y)) := by
  obtain ⟨m, i, ex, hi, hm⟩ := read_fin hx
  obtain ⟨n, j, ey, hj, hn⟩ := read_fin hy
  have hn0 : 0 < n := by
    have := V_pos h0
    by_cases h : 0 < n
    · exact h
    · rw [show n = 0 from by omega, Nat.zero_mul] at hn
      omega
  unfold Format.div
  rw [ex, ey]
  simp only [Datum.quotient, if_neg (show ¬ n = 0 by omega), Option.map_some]
  obtain ⟨r, hr, hN⟩ := quot_near (ng x ^^ ng y) m n i j hn0 hi hj
  rw [hm, hn] at hN
  exact ⟨r, congrArg some hr, hN⟩

/-- A whole number made a float. -/
theorem int_near (n : Int) : ∃ r, FloatKind.f64.nearest n = double.word (decide (n < 0)) r ∧ Near r (n.natAbs * T) 1 := by
  obtain ⟨r, hr, hN⟩ := nearest_near (decide (n < 0)) n.natAbs 0
  refine ⟨r, hr, ?_⟩
  have e1 : ((0 : Int) + 1074).toNat = 1074 := rfl
  have e2 : (-((0 : Int) + 1074)).toNat = 0 := rfl
  obtain ⟨c, hc⟩ : ∃ c : Nat, c = 1074 := ⟨_, rfl⟩
  rw [e1, e2, Nat.pow_zero, ← hc, ← T_eq c hc] at hN
  exact hN
end Go.Proofs.Qxb6619316a.Fl
