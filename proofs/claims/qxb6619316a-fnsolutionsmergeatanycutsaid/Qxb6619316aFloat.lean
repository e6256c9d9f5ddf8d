/-
  PLAIN FACTS ON float64, no Go in sight: what a word stands for, scaled by 2 ^ 1074 to a whole number; that 'nearest' rounds to nearest, ties to even; that rounding is monotone, exact where it can be, and how far off it may be.
-/
import Derived.Laws.FloatArith
namespace Go.Proofs.Qxb6619316a.Fl

/-- The magnitude at rung r, in units of 2 ^ -1074. -/
def V (r : Nat) : Nat := if r < 4503599627370496 then r else (4503599627370496 + r % 4503599627370496) * 2 ^ (r / 4503599627370496 - 1)

theorem V_low {k : Nat} (h : k < 4503599627370496) : V k = k := by unfold V; rw [if_pos h]

theorem V_at (e k : Nat) (h1 : 4503599627370496 ≤ k) (h2 : k < 2 * 4503599627370496) : V (e * 4503599627370496 + k) = k * 2 ^ e := by
  have hd : (e * 4503599627370496 + k) / 4503599627370496 = e + 1 := by omega
  have hm : (e * 4503599627370496 + k) % 4503599627370496 = k - 4503599627370496 := by omega
  unfold V
  rw [if_neg (by omega), hd, hm, Nat.add_sub_cancel, Nat.add_sub_cancel' h1]

theorem V_top (e : Nat) : V (e * 4503599627370496 + 2 * 4503599627370496) = 2 * 4503599627370496 * 2 ^ e := by
  rw [show e * 4503599627370496 + 2 * 4503599627370496 = (e + 1) * 4503599627370496 + 4503599627370496 from by omega, V_at (e + 1) 4503599627370496 (by omega) (by omega), Nat.pow_succ]
  generalize 2 ^ e = X
  omega

theorem V_zero_exp {k : Nat} (h : k < 2 * 4503599627370496) : V k = k := by
  by_cases h1 : k < 4503599627370496
  · exact V_low h1
  · have := V_at 0 k (by omega) h2
    simpa using this
  where h2 : k < 2 * 4503599627370496 := h

/-- Every rung, its exponent and its whole significand; the next rung is one significand on. -/
theorem V_step (r : Nat) : ∃ e k, r = e * 4503599627370496 + k ∧ k < 2 * 4503599627370496 ∧ (4503599627370496 ≤ k ∨ e = 0) ∧ V r = k * 2 ^ e ∧ V (r + 1) = (k + 1) * 2 ^ e := by
  by_cases h : r < 4503599627370496
  · refine ⟨0, r, by omega, by omega, .inr rfl, by rw [V_low h]; simp, ?_⟩
    rw [V_zero_exp (by omega)]
    simp
  · refine ⟨r / 4503599627370496 - 1, 4503599627370496 + r % 4503599627370496, by omega, by omega, .inl (by omega), ?_, ?_⟩
    · unfold V; rw [if_neg h]
    · by_cases h3 : 4503599627370496 + r % 4503599627370496 + 1 < 2 * 4503599627370496
      · have e : r + 1 = (r / 4503599627370496 - 1) * 4503599627370496 + (4503599627370496 + r % 4503599627370496 + 1) := by omega
        rw [e, V_at _ _ (by omega) h3]
      · have e : r + 1 = (r / 4503599627370496 - 1) * 4503599627370496 + 2 * 4503599627370496 := by omega
        rw [e, V_top, show 4503599627370496 + r % 4503599627370496 + 1 = 2 * 4503599627370496 from by omega]

theorem V_lt_succ (r : Nat) : V r < V (r + 1) := by
  obtain ⟨e, k, _, _, _, h1, h2⟩ := V_step r
  rw [h1, h2]
  exact Nat.mul_lt_mul_of_pos_right (by omega) (Nat.two_pow_pos e)

theorem V_lt {a b : Nat} (h : a < b) : V a < V b := by
  induction b with
  | zero => omega
  | succ n ih =>
    by_cases e : a = n
    · subst e; exact V_lt_succ a
    · exact Nat.lt_trans (ih (by omega)) (V_lt_succ n)

theorem V_le {a b : Nat} (h : a ≤ b) : V a ≤ V b := by
  by_cases e : a = b
  · rw [e]; exact Nat.le_refl _
  · exact Nat.le_of_lt (V_lt (by omega))

theorem V_lt_iff {a b : Nat} : V a < V b ↔ a < b := ⟨fun h => by
  by_cases hc : a < b
  · exact hc
  · have := V_le (show b ≤ a by omega); omega, V_lt⟩

theorem V_inj {a b : Nat} (h : V a = V b) : a = b := by
  by_cases h1 : a < b
  · have := V_lt h1; omega
  · by_cases h2 : b < a
    · have := V_lt h2; omega
    · omega

/-- 'r is n / d rounded to the nearest, ties to even' (n / d in units of 2 ^ -1074). -/
structure Near (r n d : Nat) : Prop where
  pos : 0 < d
  le : r ≤ 9218868437227405312
  up : r < 9218868437227405312 → 2 * n ≤ (V r + V (r + 1)) * d
  upEven : r < 9218868437227405312 → 2 * n = (V r + V (r + 1)) * d → r % 2 = 0
  lo : 0 < r → (V (r - 1) + V r) * d ≤ 2 * n
  loEven : 0 < r → (V (r - 1) + V r) * d = 2 * n → r % 2 = 0

theorem Near.mono {r n d r' n' d' : Nat} (h : Near r n d) (h' : Near r' n' d') (hq : n * d' ≤ n' * d) : r ≤ r' := by
  by_cases hc : r ≤ r'
  · exact hc
  exfalso
  have hlt : r' < r := by omega
  have hle := h.le
  have h1 := h'.up (by omega)
  have h2 := h.lo (by omega)
  have v1 : V r' ≤ V (r - 1) := V_le (by omega)
  have v2 : V (r' + 1) ≤ V r := V_le (by omega)
  -- (V r' + V (r'+1)) d d' ≤ (V (r-1) + V r) d d' ≤ 2 n d' ≤ 2 n' d ≤ (V r' + V (r'+1)) d' d
  have a1 : (V r' + V (r' + 1)) * (d * d') ≤ (V (r - 1) + V r) * (d * d') := Nat.mul_le_mul_right _ (by omega)
  have a2 : (V (r - 1) + V r) * d * d' ≤ 2 * n * d' := Nat.mul_le_mul_right _ h2
  have a3 : 2 * n' * d ≤ (V r' + V (r' + 1)) * d' * d := Nat.mul_le_mul_right _ h1
  have a4 : 2 * n * d' ≤ 2 * n' * d := by rw [Nat.mul_assoc, Nat.mul_assoc]; exact Nat.mul_le_mul_left _ hq
  have e1 : (V (r - 1) + V r) * d * d' = (V (r - 1) + V r) * (d * d') := Nat.mul_assoc _ _ _
  have e2 : (V r' + V (r' + 1)) * d' * d = (V r' + V (r' + 1)) * (d * d') := by rw [Nat.mul_assoc, Nat.mul_comm d' d]
  have eq1 : (V r' + V (r' + 1)) * (d * d') = (V (r - 1) + V r) * (d * d') := by omega
  have hpos : 0 < d * d' := Nat.mul_pos h.pos h'.pos
  have eq2 : V r' + V (r' + 1) = V (r - 1) + V r := Nat.eq_of_mul_eq_mul_right hpos eq1
  have eq3 : V r' = V (r - 1) := by omega
  have hr : r' = r - 1 := V_inj eq3
  have t1 : 2 * n' = (V r' + V (r' + 1)) * d' := Nat.eq_of_mul_eq_mul_right h.pos (by omega)
  have t2 : (V (r - 1) + V r) * d = 2 * n := Nat.eq_of_mul_eq_mul_right h'.pos (by omega)
  have p1 := h'.upEven (by omega) t1
  have p2 := h.loEven (by omega) t2
  omega

theorem Near.exact {r : Nat} (h : r ≤ 9218868437227405312) : Near r (V r) 1 where
  pos := Nat.one_pos
  le := h
  up := fun _ => by have := V_lt_succ r; omega
  upEven := fun _ e => by have := V_lt_succ r; omega
  lo := fun h0 => by have := V_lt (show r - 1 < r by omega); omega
  loEven := fun h0 e => by have := V_lt (show r - 1 < r by omega); omega

theorem Near.le_of {r n d s : Nat} (h : Near r n d) (hs : s ≤ 9218868437227405312) (hq : n ≤ V s * d) : r ≤ s := h.mono (Near.exact hs) (by omega)
theorem Near.ge_of {r n d s : Nat} (h : Near r n d) (hs : s ≤ 9218868437227405312) (hq : V s * d ≤ n) : s ≤ r := (Near.exact hs).mono h (by omega)
theorem Near.eq_of {r n d s : Nat} (h : Near r n d) (hs : s ≤ 9218868437227405312) (hq : n = V s * d) : r = s :=
  Nat.le_antisymm (h.le_of hs (by omega)) (h.ge_of hs (by omega))
theorem Near.unique {r r' n d : Nat} (h : Near r n d) (h' : Near r' n d) : r = r' :=
  Nat.le_antisymm (h.mono h' (Nat.le_refl _)) (h'.mono h (Nat.le_refl _))

/-- The same quotient, written otherwise. -/
theorem Near.same {r n d n' d' : Nat} (h : Near r n d) (hp : 0 < d') (hq : n * d' = n' * d) : Near r n' d' := by
  have key : ∀ x : Nat, (x * d * d' = x * d' * d) := fun x => by rw [Nat.mul_assoc, Nat.mul_comm d d', Nat.mul_assoc]
  have hn : ∀ x : Nat, (2 * n ≤ x * d ↔ 2 * n' ≤ x * d') := fun x => by
    constructor
    · intro hx
      refine Nat.le_of_mul_le_mul_right (c := d) ?_ h.pos
      calc 2 * n' * d = 2 * n * d' := by rw [Nat.mul_assoc, Nat.mul_assoc, hq]
        _ ≤ x * d * d' := Nat.mul_le_mul_right _ hx
        _ = x * d' * d := key x
    · intro hx
      refine Nat.le_of_mul_le_mul_right (c := d') ?_ hp
      calc 2 * n * d' = 2 * n' * d := by rw [Nat.mul_assoc, Nat.mul_assoc, hq]
        _ ≤ x * d' * d := Nat.mul_le_mul_right _ hx
        _ = x * d * d' := (key x).symm
  have hm : ∀ x : Nat, (x * d ≤ 2 * n ↔ x * d' ≤ 2 * n') := fun x => by
    constructor
    · intro hx
      refine Nat.le_of_mul_le_mul_right (c := d) ?_ h.pos
      calc x * d' * d = x * d * d' := (key x).symm
        _ ≤ 2 * n * d' := Nat.mul_le_mul_right _ hx
        _ = 2 * n' * d := by rw [Nat.mul_assoc, Nat.mul_assoc, hq]
    · intro hx
      refine Nat.le_of_mul_le_mul_right (c := d') ?_ hp
      calc x * d * d' = x * d' * d := key x
        _ ≤ 2 * n' * d := Nat.mul_le_mul_right _ hx
        _ = 2 * n * d' := by rw [Nat.mul_assoc, Nat.mul_assoc, hq]
  refine ⟨hp, h.le, fun a => (hn _).1 (h.up a), fun a e => h.upEven a (Nat.le_antisymm ((hn _).2 (Nat.le_of_eq e)) ((hm _).2 (Nat.le_of_eq e.symm))), fun a => (hm _).1 (h.lo a), fun a e => h.loEven a (Nat.le_antisymm ((hm _).2 (Nat.le_of_eq e)) ((hn _).2 (Nat.le_of_eq e.symm)))⟩

theorem aux_up (n X Y Z : Nat) (h1 : 2 * n ≤ 2 * Y + X) (h2 : 4503599627370496 * X ≤ Z) : 2 * 4503599627370496 * n ≤ 2 * 4503599627370496 * Y + Z := by omega
theorem aux_lo (n X Y Z W : Nat) (h0 : 2 * Y = W + X) (h1 : W ≤ 2 * n) (h2 : 4503599627370496 * X ≤ Z) : 2 * 4503599627370496 * Y ≤ 2 * 4503599627370496 * n + Z := by omega

/-- HOW FAR OFF: half a unit in the last place; said as 2 ^ 53 times the error against the result. -/
theorem Near.err_up {r n d : Nat} (h : Near r n d) (hr : r < 9218868437227405312) : 2 * 4503599627370496 * n ≤ 2 * 4503599627370496 * (V r * d) + (V r + 4503599627370496) * d := by
  obtain ⟨e, k, _, hk, hk2, h1, h2⟩ := V_step r
  have hu := h.up hr
  have hg : V (r + 1) = V r + 2 ^ e := by rw [h1, h2, Nat.succ_mul]
  have hb : 2 ^ e * 4503599627370496 ≤ V r + 4503599627370496 := by
    rcases hk2 with hk2 | rfl
    · rw [h1, Nat.mul_comm]
      have := Nat.mul_le_mul_right (2 ^ e) hk2
      omega
    · simp
  rw [hg] at hu
  have e1 : (V r + (V r + 2 ^ e)) * d = 2 * (V r * d) + 2 ^ e * d := by rw [Nat.add_mul, Nat.add_mul]; omega
  have e2 : 4503599627370496 * (2 ^ e * d) = (2 ^ e * 4503599627370496) * d := by rw [← Nat.mul_assoc, Nat.mul_comm 4503599627370496]
  have e3 : (2 ^ e * 4503599627370496) * d ≤ (V r + 4503599627370496) * d := Nat.mul_le_mul_right _ hb
  exact aux_up n (2 ^ e * d) (V r * d) ((V r + 4503599627370496) * d) (by rw [← e1]; exact hu) (by rw [e2]; exact e3)

theorem Near.err_lo {r n d : Nat} (h : Near r n d) : 2 * 4503599627370496 * (V r * d) ≤ 2 * 4503599627370496 * n + (V r + 4503599627370496) * d := by
  by_cases h0 : 0 < r
  rotate_left
  · obtain rfl : r = 0 := by omega
    simp [V]
  obtain ⟨e, k, _, hk, hk2, h1, h2⟩ := V_step (r - 1)
  have hu := h.lo h0
  rw [show r - 1 + 1 = r from by omega] at h2
  have hg : V r = V (r - 1) + 2 ^ e := by rw [h1, h2, Nat.succ_mul]
  have hb : 2 ^ e * 4503599627370496 ≤ V r + 4503599627370496 := by
    rcases hk2 with hk2 | rfl
    · rw [h2, Nat.mul_comm]
      have := Nat.mul_le_mul_right (2 ^ e) (show 4503599627370496 ≤ k + 1 by omega)
      omega
    · simp
  have e0 : 2 * (V r * d) = (V (r - 1) + V r) * d + 2 ^ e * d := by
    rw [← Nat.add_mul, ← Nat.mul_assoc, show 2 * V r = V (r - 1) + V r + 2 ^ e from by omega]
  have e2 : 4503599627370496 * (2 ^ e * d) = (2 ^ e * 4503599627370496) * d := by rw [← Nat.mul_assoc, Nat.mul_comm 4503599627370496]
  have e3 : (2 ^ e * 4503599627370496) * d ≤ (V r + 4503599627370496) * d := Nat.mul_le_mul_right _ hb
  exact aux_lo n (2 ^ e * d) (V r * d) ((V r + 4503599627370496) * d) ((V (r - 1) + V r) * d) e0 hu (by rw [e2]; exact e3)
end Go.Proofs.Qxb6619316a.Fl
