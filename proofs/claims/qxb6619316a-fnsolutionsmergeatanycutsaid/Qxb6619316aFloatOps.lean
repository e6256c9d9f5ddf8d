/-
  PLAIN FACTS ON float64, MORE: what 'nearest', the reading of a word, the sum, the product, the quotient and the order come to, in scaled whole numbers.
-/
import Derived.Test.Qxb6619316aFloat
namespace Go.Proofs.Qxb6619316a.Fl
open Ieee

/-- 'k is x / (y * 2 ^ drop) as a whole number, to nearest, ties to even.' -/
structure CutOk (x y drop k : Nat) : Prop where
  up : 2 * x ≤ (2 * k + 1) * 2 ^ drop * y
  upEven : 2 * x = (2 * k + 1) * 2 ^ drop * y → k % 2 = 0
  lo : 0 < k → (2 * k - 1) * 2 ^ drop * y ≤ 2 * x
  loEven : 0 < k → (2 * k - 1) * 2 ^ drop * y = 2 * x → k % 2 = 0

theorem half_even (P q r g k : Nat) (hP : P = g * q) (hr : r < g) (hk : (k = q ∧ 2 * r ≤ g ∧ (2 * r = g → q % 2 = 0)) ∨ (k = q + 1 ∧ g ≤ 2 * r ∧ (2 * r = g → q % 2 = 1))) :
    2 * (P + r) ≤ (2 * k + 1) * g ∧ (2 * (P + r) = (2 * k + 1) * g → k % 2 = 0) ∧ (0 < k → (2 * k - 1) * g ≤ 2 * (P + r)) ∧ (0 < k → (2 * k - 1) * g = 2 * (P + r) → k % 2 = 0) := by
  have e1 : (2 * k + 1) * g = 2 * (g * k) + g := by rw [Nat.add_mul, Nat.one_mul, Nat.mul_assoc, Nat.mul_comm k]
  have e2 : 0 < k → (2 * k - 1) * g + g = 2 * (g * k) := fun h => by
    rw [Nat.sub_mul, Nat.one_mul, Nat.mul_assoc, Nat.mul_comm k]
    have : g * 1 ≤ g * k := Nat.mul_le_mul_left _ h
    omega
  rcases hk with ⟨rfl, h1, h2⟩ | ⟨rfl, h1, h2⟩
  · rw [← hP] at e1 e2
    refine ⟨by omega, fun h => h2 (by omega), fun h => by have := e2 h; omega, fun h h' => by have := e2 h; omega⟩
  · have e3 : g * (q + 1) = P + g := by rw [Nat.mul_add, Nat.mul_one, hP]
    rw [e3] at e1 e2
    refine ⟨by omega, fun h => by omega, fun h => by have := e2 h; omega, fun h h' => by have := e2 h; have := h2 (by omega); omega⟩

theorem shl_one (a : Nat) : (1 <<< a : Nat) = 2 ^ a := by rw [Nat.shiftLeft_eq, Nat.one_mul]

theorem cut_def (neg : Bool) (n drop : Nat) : Toward.even.cut neg n drop = n / 2 ^ min drop (n.log2 + 2) + (decide (2 ^ min drop (n.log2 + 2) < 2 * (n % 2 ^ min drop (n.log2 + 2))) || (2 ^ min drop (n.log2 + 2) == 2 * (n % 2 ^ min drop (n.log2 + 2)) && n / 2 ^ min drop (n.log2 + 2) % 2 == 1)).toNat := by
  unfold Toward.cut
  simp only [shl_one]

theorem cut_ok (neg : Bool) (n drop : Nat) (hn : 0 < n) : CutOk n 1 drop (Toward.even.cut neg n drop) := by
  rw [cut_def]
  by_cases h : drop ≤ n.log2 + 2
  · rw [Nat.min_eq_left h]
    have hg : 0 < 2 ^ drop := Nat.two_pow_pos _
    generalize hgd : 2 ^ drop = g at hg
    have hdm := Nat.div_add_mod n g
    have hlt := Nat.mod_lt n hg
    have R := half_even (g * (n / g)) (n / g) (n % g) g (n / g + (decide (g < 2 * (n % g)) || (g == 2 * (n % g) && n / g % 2 == 1)).toNat) rfl hlt (by
      by_cases h1 : g < 2 * (n % g)
      · right
        exact ⟨by simp [h1], by omega, by omega⟩
      · by_cases h2 : g = 2 * (n % g)
        · by_cases h3 : n / g % 2 = 1
          · right
            have b : (g == 2 * (n % g)) = true := by simpa using h2
            exact ⟨by rw [b]; simp [h3], by omega, by omega⟩
          · left
            exact ⟨by simp [h1, h3], by omega, by omega⟩
        · left
          have b : (g == 2 * (n % g)) = false := by simpa using h2
          exact ⟨by rw [b]; simp [h1], by omega, by omega⟩)
    rw [hdm] at R
    generalize n / g + (decide (g < 2 * (n % g)) || (g == 2 * (n % g) && n / g % 2 == 1)).toNat = k at R
    exact ⟨by rw [hgd, Nat.mul_one]; exact R.1, by rw [hgd, Nat.mul_one]; exact R.2.1, by rw [hgd, Nat.mul_one]; exact R.2.2.1, by rw [hgd, Nat.mul_one]; exact R.2.2.2⟩
  · rw [Nat.min_eq_right (by omega)]
    have h1 : n < 2 ^ (n.log2 + 1) := Nat.lt_log2_self
    have h2 : 2 ^ (n.log2 + 2) = 2 * 2 ^ (n.log2 + 1) := by rw [Nat.pow_succ]; omega
    have h3 : 2 ^ (n.log2 + 2) ≤ 2 ^ drop := Nat.pow_le_pow_right (by omega) (by omega)
    have e1 : n / 2 ^ (n.log2 + 2) = 0 := Nat.div_eq_of_lt (by omega)
    have e2 : n % 2 ^ (n.log2 + 2) = n := Nat.mod_eq_of_lt (by omega)
    have e3 : (decide (2 ^ (n.log2 + 2) < 2 * n) || (2 ^ (n.log2 + 2) == 2 * n && 0 % 2 == 1)).toNat = 0 := by
      have : ¬ 2 ^ (n.log2 + 2) < 2 * n := by omega
      simp [this]
    rw [e1, e2, e3]
    refine ⟨by omega, fun _ => rfl, fun h => by omega, fun h => by omega⟩

/-- A quotient with its last digit sticky rounds as the true quotient does, where at least two digits go. -/
theorem CutOk.sticky {D m drop k : Nat} (hm : 0 < m) (hdrop : 2 ≤ drop) (h : CutOk (2 * (D / m) + (D % m != 0).toNat) 1 drop k) : CutOk (2 * D) m drop k := by
  obtain ⟨f, rfl⟩ : ∃ f, drop = f + 2 := ⟨drop - 2, by omega⟩
  have hp : 2 ^ (f + 2) = 4 * 2 ^ f := by rw [Nat.pow_add]; omega
  have hdm := Nat.div_add_mod D m
  have hlt := Nat.mod_lt D hm
  obtain ⟨h1, h2, h3, h4⟩ := h
  rw [hp, Nat.mul_one] at h1 h2 h3 h4
  have c1 : ∀ a : Nat, a * (4 * 2 ^ f) = 4 * (a * 2 ^ f) := fun a => by rw [Nat.mul_left_comm]
  have c2 : ∀ a : Nat, a * (4 * 2 ^ f) * m = 4 * (a * 2 ^ f * m) := fun a => by rw [c1, Nat.mul_assoc]
  rw [c1] at h1 h2 h3 h4
  refine ⟨?_, ?_, ?_, ?_⟩
  all_goals rw [hp, c2]
  all_goals clear c1 c2 hp
  all_goals generalize (2 * k + 1) * 2 ^ f = c at *
  all_goals generalize (2 * k - 1) * 2 ^ f = c' at *
  all_goals generalize hq : D / m = q at *
  all_goals generalize hr : D % m = r at *
  all_goals by_cases h0 : r = 0
  all_goals have hs : (r != 0).toNat = (if r = 0 then 0 else 1) := by by_cases h : r = 0 <;> simp [h]
  all_goals rw [hs] at h1 h2 h3 h4
  all_goals simp only [h0, if_true, if_false] at h1 h2 h3 h4
  · have := Nat.mul_le_mul_right m (show q ≤ c by omega)
    rw [Nat.mul_comm m q] at hdm
    omega
  · have := Nat.mul_le_mul_right m (show q + 1 ≤ c by omega)
    rw [Nat.add_mul, Nat.one_mul] at this
    rw [Nat.mul_comm m q] at hdm
    omega
  · intro h
    have e : m * q = m * c := by rw [Nat.mul_comm m c]; omega
    have := Nat.eq_of_mul_eq_mul_left hm e
    exact h2 (by omega)
  · intro h
    have := Nat.mul_le_mul_right m (show q + 1 ≤ c by omega)
    rw [Nat.add_mul, Nat.one_mul] at this
    rw [Nat.mul_comm m q] at hdm
    omega
  · intro hk
    have h3' := h3 hk
    have := Nat.mul_le_mul_right m (show c' ≤ q by omega)
    rw [Nat.mul_comm m q] at hdm
    omega
  · intro hk
    have h3' := h3 hk
    have := Nat.mul_le_mul_right m (show c' ≤ q by omega)
    rw [Nat.mul_comm m q] at hdm
    omega
  · intro hk h
    have h3' := h3 hk
    have e : m * q = m * c' := by rw [Nat.mul_comm m c']; omega
    have := Nat.eq_of_mul_eq_mul_left hm e
    exact h4 hk (by omega)
  · intro hk h
    have h3' := h3 hk
    have := Nat.mul_le_mul_right m (show c' ≤ q by omega)
    rw [Nat.mul_comm m q] at hdm
    omega

/-- The scale turned: α β = γ δ ε. -/
theorem scale {x y M a b c d e : Nat} (hb : 0 < b) (hd : 0 < d) (he : 0 < e) (h : a * b = c * d * e) :
    (2 * (x * c) ≤ M * b * y ↔ 2 * (x * a) ≤ M * d * (y * e)) ∧ (M * b * y ≤ 2 * (x * c) ↔ M * d * (y * e) ≤ 2 * (x * a)) := by
  have l : 2 * (x * a) * b = 2 * (x * c) * (d * e) := by
    rw [Nat.mul_assoc, Nat.mul_assoc x a b, h, Nat.mul_assoc c d e, ← Nat.mul_assoc x c, ← Nat.mul_assoc]
  have r : M * d * (y * e) * b = M * b * y * (d * e) := by ac_rfl
  have hde : 0 < d * e := Nat.mul_pos hd he
  constructor
  · rw [show (2 * (x * c) ≤ M * b * y ↔ 2 * (x * c) * (d * e) ≤ M * b * y * (d * e)) from (Nat.mul_le_mul_right_iff hde).symm, ← l, ← r]
    exact Nat.mul_le_mul_right_iff hb
  · rw [show (M * b * y ≤ 2 * (x * c) ↔ M * b * y * (d * e) ≤ 2 * (x * c) * (d * e)) from (Nat.mul_le_mul_right_iff hde).symm, ← l, ← r]
    exact Nat.mul_le_mul_right_iff hb

theorem V_sig {e k : Nat} (hk : k ≤ 2 * 4503599627370496) (hlow : e = 0 ∨ 4503599627370496 ≤ k) : V (e * 4503599627370496 + k) = k * 2 ^ e := by
  by_cases h2 : k < 2 * 4503599627370496
  · rcases hlow with rfl | h
    · rw [Nat.zero_mul, Nat.zero_add, V_zero_exp h2, Nat.pow_zero, Nat.mul_one]
    · exact V_at e k h h2
  · have h3 : k = 2 * 4503599627370496 := by omega
    rw [h3]
    exact V_top e

theorem V_sig_succ {e k : Nat} (hk : k ≤ 2 * 4503599627370496) (hlow : e = 0 ∨ 4503599627370496 ≤ k) : (k + 1) * 2 ^ e ≤ V (e * 4503599627370496 + k + 1) := by
  by_cases h2 : k < 2 * 4503599627370496
  · rw [Nat.add_assoc, V_sig (by omega) (by omega)]
    exact Nat.le_refl _
  · have h3 : e * 4503599627370496 + k + 1 = (e + 1) * 4503599627370496 + (4503599627370496 + 1) := by omega
    have h4 : k + 1 ≤ (4503599627370496 + 1) * 2 := by omega
    rw [h3, V_at (e + 1) (4503599627370496 + 1) (by omega) (by omega), Nat.pow_succ, Nat.mul_comm (2 ^ e) 2, ← Nat.mul_assoc]
    exact Nat.mul_le_mul_right _ h4

theorem V_sig_pred {e k : Nat} (hk : k ≤ 2 * 4503599627370496) (hk0 : 0 < k) (hlow : e = 0 ∨ 4503599627370496 < k) : V (e * 4503599627370496 + k - 1) = (k - 1) * 2 ^ e := by
  rw [show e * 4503599627370496 + k - 1 = e * 4503599627370496 + (k - 1) from by omega]
  exact V_sig (by omega) (by omega)

theorem V_sig_edge (f : Nat) : V ((f + 1) * 4503599627370496 + 4503599627370496 - 1) = (2 * 4503599627370496 - 1) * 2 ^ f := by
  rw [show (f + 1) * 4503599627370496 + 4503599627370496 - 1 = f * 4503599627370496 + (2 * 4503599627370496 - 1) from by omega]
  exact V_at f (2 * 4503599627370496 - 1) (by omega) (by omega)

theorem edge_aux (X n : Nat) (d : Nat) (hX : 0 < X * d) (hn : 4503599627370496 * (X * 2) * d ≤ n) : ((2 * 4503599627370496 - 1) * X + 4503599627370496 * (X * 2)) * d < 2 * n := by
  have e1 : (2 * 4503599627370496 - 1) * X + 4503599627370496 * (X * 2) = (4 * 4503599627370496 - 1) * X := by omega
  have e2 : 4503599627370496 * (X * 2) = 2 * 4503599627370496 * X := by omega
  rw [e1, Nat.mul_assoc]
  rw [e2, Nat.mul_assoc] at hn
  generalize X * d = Y at *
  omega

/-- A whole significand k at exponent e, rounded from n / d: the rung e 4503599627370496 + k, cut at infinity's, is near to it. -/
theorem near_of_cut {e k n d : Nat} (hd : 0 < d) (hk : k ≤ 2 * 4503599627370496) (hlow : e = 0 ∨ (4503599627370496 ≤ k ∧ 4503599627370496 * 2 ^ e * d ≤ n))
    (up : 2 * n ≤ (2 * k + 1) * 2 ^ e * d) (upEven : 2 * n = (2 * k + 1) * 2 ^ e * d → k % 2 = 0)
    (lo : 0 < k → (2 * k - 1) * 2 ^ e * d ≤ 2 * n) (loEven : 0 < k → (2 * k - 1) * 2 ^ e * d = 2 * n → k % 2 = 0) :
    Near (min (e * 4503599627370496 + k) 9218868437227405312) n d := by
  have hlow' : e = 0 ∨ 4503599627370496 ≤ k := by
    rcases hlow with h | h
    · exact .inl h
    · exact .inr h.1
  have hVr := V_sig hk hlow'
  have hVs := V_sig_succ hk hlow'
  have heven : k % 2 = 0 → (e * 4503599627370496 + k) % 2 = 0 := by omega
  -- the lower neighbour
  have hlo : 0 < e * 4503599627370496 + k → (V (e * 4503599627370496 + k - 1) + V (e * 4503599627370496 + k)) * d ≤ 2 * n ∧ ((V (e * 4503599627370496 + k - 1) + V (e * 4503599627370496 + k)) * d = 2 * n → k % 2 = 0) := by
    intro hpos
    by_cases hc : e = 0 ∨ 4503599627370496 < k
    · have hk0 : 0 < k := by omega
      have e1 : V (e * 4503599627370496 + k - 1) + V (e * 4503599627370496 + k) = (2 * k - 1) * 2 ^ e := by
        rw [V_sig_pred hk hk0 hc, hVr, ← Nat.add_mul]
        rw [show k - 1 + k = 2 * k - 1 from by omega]
      rw [e1]
      exact ⟨lo hk0, loEven hk0⟩
    · obtain ⟨hB, hn⟩ := hlow.resolve_left (by omega)
      have hkB : k = 4503599627370496 := by omega
      obtain ⟨f, hf⟩ : ∃ f, e = f + 1 := ⟨e - 1, by omega⟩
      have hlt : (V (e * 4503599627370496 + k - 1) + V (e * 4503599627370496 + k)) * d < 2 * n := by
        rw [hVr, hkB, hf, V_sig_edge, Nat.pow_succ]
        rw [hf, Nat.pow_succ] at hn
        exact edge_aux (2 ^ f) n d (Nat.mul_pos (Nat.two_pow_pos _) hd) hn
      exact ⟨Nat.le_of_lt hlt, fun h => by omega⟩
  by_cases hinf : e * 4503599627370496 + k < 9218868437227405312
  · rw [Nat.min_eq_left (by omega)]
    have hu : (2 * k + 1) * 2 ^ e * d ≤ (V (e * 4503599627370496 + k) + V (e * 4503599627370496 + k + 1)) * d := by
      refine Nat.mul_le_mul_right _ ?_
      rw [hVr, show 2 * k + 1 = k + (k + 1) from by omega, Nat.add_mul]
      exact Nat.add_le_add_left hVs _
    refine ⟨hd, by omega, fun _ => Nat.le_trans up hu, fun _ h => heven (upEven (Nat.le_antisymm up (by rw [h]; exact hu))), fun h => (hlo h).1, fun h h' => heven ((hlo h).2 h')⟩
  · rw [Nat.min_eq_right (by omega)]
    have hl := (hlo (by omega)).1
    have v1 : V (9218868437227405312 - 1) ≤ V (e * 4503599627370496 + k - 1) := V_le (by omega)
    have v2 : V 9218868437227405312 ≤ V (e * 4503599627370496 + k) := V_le (by omega)
    have v3 : (V (9218868437227405312 - 1) + V 9218868437227405312) * d ≤ (V (e * 4503599627370496 + k - 1) + V (e * 4503599627370496 + k)) * d := Nat.mul_le_mul_right _ (Nat.add_le_add v1 v2)
    exact ⟨hd, Nat.le_refl _, fun h => by omega, fun h => by omega, fun _ => Nat.le_trans v3 hl, fun _ _ => by omega⟩

theorem dbl_frac : double.fractionBits = 52 := rfl
theorem dbl_least : double.leastPlace = -1074 := by decide
theorem dbl_binade : double.binade = 4503599627370496 := by decide
theorem dbl_inf : double.infRung = 9218868437227405312 := by decide
theorem dbl_sign : double.signWeight = 9223372036854775808 := by decide

/-- The place of the last digit that is kept. -/
def lastOf (mag : Nat) (place : Int) : Int := max (place + mag.log2 - 52) (-1074)

theorem nearest_def (neg : Bool) (mag : Nat) (place : Int) (h : 0 < mag) :
    double.nearest neg mag place = double.word neg (min ((lastOf mag place + 1074).toNat * 4503599627370496 + Toward.even.cut neg (mag * 2 ^ (place - lastOf mag place).toNat) (lastOf mag place - place).toNat) 9218868437227405312) := by
  unfold Format.nearest
  rw [if_neg (by omega)]
  simp only [dbl_frac, dbl_least, dbl_binade, dbl_inf, Nat.shiftLeft_eq]
  rfl

theorem pow_le_of {a b : Nat} (h : a ≤ b) : 2 ^ a ≤ 2 ^ b := Nat.pow_le_pow_right (by omega) h

theorem cut_le {N D k : Nat} (h1 : N < 9007199254740992 * D) (h2 : 0 < k → (2 * k - 1) * D ≤ 2 * N) : k ≤ 9007199254740992 := by
  by_cases hk : k ≤ 9007199254740992
  · exact hk
  · have h3 := h2 (by omega)
    have h4 : (2 * 9007199254740992 + 1) * D ≤ (2 * k - 1) * D := Nat.mul_le_mul_right _ (by omega)
    rw [Nat.add_mul] at h4
    omega
theorem cut_ge {N D k : Nat} (hD : 0 < D) (h1 : 4503599627370496 * D ≤ N) (h2 : 2 * N ≤ (2 * k + 1) * D) : 4503599627370496 ≤ k := by
  by_cases hk : 4503599627370496 ≤ k
  · exact hk
  · have h4 : (2 * k + 1) * D ≤ (2 * 4503599627370496 - 1) * D := Nat.mul_le_mul_right _ (by omega)
    rw [Nat.sub_mul] at h4
    omega

theorem nearest_core (neg : Bool) (mag : Nat) (place : Int) (x y : Nat) (hm : 0 < mag) (hy : 0 < y) (hlow : 2 ^ mag.log2 * y ≤ x)
    (hC : CutOk (x * 2 ^ (place - lastOf mag place).toNat) y (lastOf mag place - place).toNat (Toward.even.cut neg (mag * 2 ^ (place - lastOf mag place).toNat) (lastOf mag place - place).toNat)) :
    ∃ r, double.nearest neg mag place = double.word neg r ∧ Near r (x * 2 ^ (place + 1074).toNat) (y * 2 ^ (-(place + 1074)).toNat) := by
  refine ⟨_, nearest_def neg mag place hm, ?_⟩
  have hN : 0 < mag * 2 ^ (place - lastOf mag place).toNat := Nat.mul_pos hm (Nat.two_pow_pos _)
  have hX := cut_ok neg (mag * 2 ^ (place - lastOf mag place).toNat) (lastOf mag place - place).toNat hN
  have l1 : 2 ^ mag.log2 ≤ mag := Nat.log2_self_le (by omega)
  have l2 : mag < 2 ^ (mag.log2 + 1) := Nat.lt_log2_self
  generalize hk : Toward.even.cut neg (mag * 2 ^ (place - lastOf mag place).toNat) (lastOf mag place - place).toNat = k at *
  generalize hL : mag.log2 = L at *
  generalize hs : (place - lastOf mag place).toNat = s at *
  generalize hdr : (lastOf mag place - place).toNat = drop at *
  generalize he : (lastOf mag place + 1074).toNat = e at *
  generalize hp1 : (place + 1074).toNat = p1 at *
  generalize hp2 : (-(place + 1074)).toNat = p2 at *
  have hlast : lastOf mag place = max (place + L - 52) (-1074) := by unfold lastOf; rw [hL]
  have hsum : p1 + drop = s + e + p2 := by omega
  have hpow : 2 ^ p1 * 2 ^ drop = 2 ^ s * 2 ^ e * 2 ^ p2 := by rw [← Nat.pow_add, ← Nat.pow_add, ← Nat.pow_add, hsum]
  have hN2 : mag * 2 ^ s < 9007199254740992 * 2 ^ drop := by
    have a1 : mag * 2 ^ s < 2 ^ (L + 1) * 2 ^ s := Nat.mul_lt_mul_of_pos_right l2 (Nat.two_pow_pos _)
    have a2 : 2 ^ (L + 1) * 2 ^ s ≤ 2 ^ 53 * 2 ^ drop := by rw [← Nat.pow_add, ← Nat.pow_add]; exact pow_le_of (by omega)
    have a3 : (2 : Nat) ^ 53 = 9007199254740992 := by decide
    rw [a3] at a2
    omega
  have hk2 : k ≤ 2 * 4503599627370496 := cut_le hN2 (fun h => by have := hX.lo h; rw [Nat.mul_one] at this; exact this)
  have hsc := fun M => scale (x := x) (y := y) (M := M) (Nat.two_pow_pos drop) (Nat.two_pow_pos e) (Nat.two_pow_pos p2) hpow
  have hlow2 : e = 0 ∨ (4503599627370496 ≤ k ∧ 4503599627370496 * 2 ^ e * (y * 2 ^ p2) ≤ x * 2 ^ p1) := by
    by_cases he0 : e = 0
    · exact .inl he0
    right
    have hex : L + s = 52 + drop := by omega
    have a3 : (2 : Nat) ^ 52 = 4503599627370496 := by decide
    constructor
    · refine cut_ge (Nat.two_pow_pos drop) ?_ (by have := hX.up; rw [Nat.mul_one] at this; exact this)
      calc 4503599627370496 * 2 ^ drop = 2 ^ L * 2 ^ s := by rw [← a3, ← Nat.pow_add, ← Nat.pow_add, hex]
        _ ≤ mag * 2 ^ s := Nat.mul_le_mul_right _ l1
    · have hex2 : 52 + e + p2 = L + p1 := by omega
      calc 4503599627370496 * 2 ^ e * (y * 2 ^ p2) = 2 ^ 52 * 2 ^ e * 2 ^ p2 * y := by rw [a3]; ac_rfl
        _ = 2 ^ L * 2 ^ p1 * y := by rw [← Nat.pow_add, ← Nat.pow_add, ← Nat.pow_add, hex2]
        _ = 2 ^ L * y * 2 ^ p1 := by ac_rfl
        _ ≤ x * 2 ^ p1 := Nat.mul_le_mul_right _ hlow
  refine near_of_cut (Nat.mul_pos hy (Nat.two_pow_pos _)) hk2 hlow2 ((hsc _).1.1 hC.up) (fun h => hC.upEven ?_) (fun h => (hsc _).2.1 (hC.lo h)) (fun h h' => hC.loEven h ?_)
  · exact Nat.le_antisymm hC.up ((hsc _).2.2 (Nat.le_of_eq h.symm))
  · exact Nat.le_antisymm (hC.lo h) ((hsc _).1.2 (Nat.le_of_eq h'.symm))

/-- 'nearest' of an exact number. -/
theorem nearest_near (neg : Bool) (mag : Nat) (place : Int) :
    ∃ r, double.nearest neg mag place = double.word neg r ∧ Near r (mag * 2 ^ (place + 1074).toNat) (2 ^ (-(place + 1074)).toNat) := by
  by_cases hm : mag = 0
  · refine ⟨0, ?_, ?_⟩
    · unfold Format.nearest
      rw [if_pos hm]
    · rw [hm, Nat.zero_mul]
      exact ⟨Nat.two_pow_pos _, by omega, fun _ => by omega, fun _ _ => by omega, fun h => by omega, fun h => by omega⟩
  · have hm' : 0 < mag := by omega
    have := nearest_core neg mag place mag 1 hm' Nat.one_pos (by rw [Nat.mul_one]; exact Nat.log2_self_le hm) (cut_ok neg _ _ (Nat.mul_pos hm' (Nat.two_pow_pos _)))
    rwa [Nat.one_mul] at this

def pw (n : Nat) : Nat := 2 ^ n
/-- One, in units of 2 ^ -1074. -/
def T : Nat := pw 1074
theorem T_eq (c : Nat) (hc : c = 1074) : T = 2 ^ c := by show pw 1074 = pw c; rw [hc]
theorem T_pos : 0 < T := by obtain ⟨c, hc⟩ : ∃ c : Nat, c = 1074 := ⟨_, rfl⟩; rw [T_eq c hc]; exact Nat.two_pow_pos _

/-- 'nearest' of a quotient with a sticky last digit. -/
theorem quot_near (neg : Bool) (m n : Nat) (i j : Int) (hn : 0 < n) (hi : -1074 ≤ i) (hj : -1074 ≤ j) :
    ∃ r, double.nearest neg (2 * (m <<< (54 + n.log2 - m.log2) / n) + (m <<< (54 + n.log2 - m.log2) % n != 0).toNat) (i - j - (54 + n.log2 - m.log2 : Nat) - 1) = double.word neg r ∧ Near r (m * 2 ^ (i + 1074).toNat * T) (n * 2 ^ (j + 1074).toNat) := by
  obtain ⟨c, hc⟩ : ∃ c : Nat, c = 1074 := ⟨_, rfl⟩
  rw [T_eq c hc]
  rw [Nat.shiftLeft_eq]
  generalize hmore : 54 + n.log2 - m.log2 = more
  by_cases hm : m = 0
  · subst hm
    refine ⟨0, ?_, ?_⟩
    · unfold Format.nearest
      rw [if_pos (by simp)]
    · rw [Nat.zero_mul, Nat.zero_mul]
      have hpos : 0 < n * 2 ^ (j + 1074).toNat := Nat.mul_pos hn (Nat.two_pow_pos _)
      refine ⟨hpos, by omega, fun _ => by omega, fun _ _ => by omega, fun h => by omega, fun h => by omega⟩
  have l1 : 2 ^ m.log2 ≤ m := Nat.log2_self_le hm
  have l2 : n < 2 ^ (n.log2 + 1) := Nat.lt_log2_self
  have hQ : 9007199254740992 ≤ m * 2 ^ more / n := by
    rw [Nat.le_div_iff_mul_le hn]
    have a3 : (2 : Nat) ^ 53 = 9007199254740992 := by decide
    calc 9007199254740992 * n ≤ 2 ^ 53 * 2 ^ (n.log2 + 1) := by rw [a3]; exact Nat.mul_le_mul_left _ (Nat.le_of_lt l2)
      _ = 2 ^ (53 + (n.log2 + 1)) := (Nat.pow_add ..).symm
      _ ≤ 2 ^ (m.log2 + more) := pow_le_of (by omega)
      _ = 2 ^ m.log2 * 2 ^ more := Nat.pow_add ..
      _ ≤ m * 2 ^ more := Nat.mul_le_mul_right _ l1
  generalize hD : m * 2 ^ more = D at *
  generalize hq : D / n = q at *
  have hdm := Nat.div_add_mod D n
  rw [hq] at hdm
  generalize hmag : 2 * q + (D % n != 0).toNat = mag
  have hs : (D % n != 0).toNat ≤ 1 := Bool.toNat_le _
  have hmag0 : 0 < mag := by omega
  have hL : 54 ≤ mag.log2 := by
    rw [Nat.le_log2 (by omega)]
    have a4 : (2 : Nat) ^ 54 = 18014398509481984 := by decide
    rw [a4]
    omega
  have hlast : i - j - (more : Int) - 1 + 2 ≤ lastOf mag (i - j - (more : Int) - 1) := by
    unfold lastOf
    omega
  have hst : (i - j - (more : Int) - 1 - lastOf mag (i - j - (more : Int) - 1)).toNat = 0 := by omega
  have hC0 := cut_ok neg (mag * 2 ^ (i - j - (more : Int) - 1 - lastOf mag (i - j - (more : Int) - 1)).toNat) (lastOf mag (i - j - (more : Int) - 1) - (i - j - (more : Int) - 1)).toNat (Nat.mul_pos hmag0 (Nat.two_pow_pos _))
  have hlow : 2 ^ mag.log2 * n ≤ 2 * D := by
    have g1 : 2 ^ mag.log2 ≤ mag := Nat.log2_self_le (by omega)
    obtain ⟨f, hf⟩ : ∃ f, mag.log2 = f + 1 := ⟨mag.log2 - 1, by omega⟩
    rw [hf, Nat.pow_succ] at g1 ⊢
    have g2 : 2 ^ f ≤ q := by omega
    have g3 : 2 ^ f * n ≤ q * n := Nat.mul_le_mul_right _ g2
    have g4 : q * n = n * q := Nat.mul_comm _ _
    have g5 : 2 ^ f * 2 * n = 2 * (2 ^ f * n) := by rw [Nat.mul_comm (2 ^ f) 2, Nat.mul_assoc]
    omega
  have hC : CutOk (2 * D * 2 ^ (i - j - (more : Int) - 1 - lastOf mag (i - j - (more : Int) - 1)).toNat) n (lastOf mag (i - j - (more : Int) - 1) - (i - j - (more : Int) - 1)).toNat (Toward.even.cut neg (mag * 2 ^ (i - j - (more : Int) - 1 - lastOf mag (i - j - (more : Int) - 1)).toNat) (lastOf mag (i - j - (more : Int) - 1) - (i - j - (more : Int) - 1)).toNat) := by
    rw [hst, Nat.pow_zero, Nat.mul_one] at hC0
    rw [hst, Nat.pow_zero, Nat.mul_one, Nat.mul_one]
    refine CutOk.sticky hn (by omega) ?_
    rw [hq, hmag]
    exact hC0
  obtain ⟨r, hr, hN⟩ := nearest_core neg mag (i - j - (more : Int) - 1) (2 * D) n hmag0 hn hlow hC
  refine ⟨r, hr, hN.same (Nat.mul_pos hn (Nat.two_pow_pos _)) ?_⟩
  rw [← hD]
  generalize hp1 : (i - j - (more : Int) - 1 + 1074).toNat = p1
  generalize hp2 : (-(i - j - (more : Int) - 1 + 1074)).toNat = p2
  generalize hp3 : (i + 1074).toNat = p3
  generalize hp4 : (j + 1074).toNat = p4
  have hx : 1 + more + p1 + p4 = p3 + c + p2 := by omega
  calc 2 * (m * 2 ^ more) * 2 ^ p1 * (n * 2 ^ p4) = m * n * (2 ^ 1 * 2 ^ more * 2 ^ p1 * 2 ^ p4) := by rw [Nat.pow_one]; ac_rfl
    _ = m * n * (2 ^ p3 * 2 ^ c * 2 ^ p2) := by rw [← Nat.pow_add, ← Nat.pow_add, ← Nat.pow_add, ← Nat.pow_add, ← Nat.pow_add, hx]
    _ = m * 2 ^ p3 * 2 ^ c * (n * 2 ^ p2) := by ac_rfl

end Go.Proofs.Qxb6619316a.Fl
