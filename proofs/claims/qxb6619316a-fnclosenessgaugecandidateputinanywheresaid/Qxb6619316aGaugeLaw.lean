/-
  THE PLAIN LAW of the gauge candidate: no Go in sight.
-/
import Derived.Test.Qxb6619316aSol
namespace Go.Proofs.Qxb6619316a.Fl
open Ieee
set_option linter.unusedVariables false

/-- Z with g put in at place p. -/
def ins (Z : List Nat) (p g : Nat) : List Nat := Z.take p ++ [g] ++ Z.drop p
theorem ins_length (Z : List Nat) (p g : Nat) (h : p ≤ Z.length) : (ins Z p g).length = Z.length + 1 := by simp [ins]; omega
theorem ins_at (Z : List Nat) (p g : Nat) (h : p ≤ Z.length) : (ins Z p g).getD p 0 = g := by
  unfold ins
  rw [List.getD, List.getElem?_append_left (by simp; omega), List.getElem?_append_right (by simp; omega)]
  simp [Nat.min_eq_left h]
theorem ins_lt (Z : List Nat) (p g i : Nat) (h : p ≤ Z.length) (hi : i < p) : (ins Z p g).getD i 0 = Z.getD i 0 := by
  unfold ins
  rw [List.getD, List.getElem?_append_left (by simp; omega), List.getElem?_append_left (by simp; omega), List.getElem?_take, if_pos hi]
  rfl
theorem ins_ge (Z : List Nat) (p g i : Nat) (h : p ≤ Z.length) (hi : p ≤ i) : (ins Z p g).getD (i + 1) 0 = Z.getD i 0 := by
  unfold ins
  have hl : (Z.take p ++ [g]).length = p + 1 := by simp; omega
  rw [List.getD, List.getElem?_append_right (by omega), hl, List.getElem?_drop, show p + (i + 1 - (p + 1)) = i from by omega]
  rfl
theorem ins_mem {Z : List Nat} {p g x : Nat} (h : x ∈ ins Z p g) : x = g ∨ x ∈ Z := by
  unfold ins at h
  rcases List.mem_append.1 h with h | h
  · rcases List.mem_append.1 h with h | h
    · exact .inr (List.mem_of_mem_take h)
    · exact .inl (by simpa using h)
  · exact .inr (List.mem_of_mem_drop h)
theorem mem_ins {Z : List Nat} (p g : Nat) {x : Nat} (h : x = g ∨ x ∈ Z) : x ∈ ins Z p g := by
  unfold ins
  rcases h with rfl | h
  · simp
  · rw [← List.take_append_drop p Z] at h
    rcases List.mem_append.1 h with h | h
    · simp [h]
    · simp [h]

/-- What the building loop has gathered. -/
def insTo (Z : List Nat) (p g i : Nat) : List Nat := if i ≤ p then Z.take i else Z.take p ++ [g] ++ (Z.drop p).take (i - p)
theorem insTo_lo (Z : List Nat) (p g i : Nat) (h : i < p) (hi : i < Z.length) : insTo Z p g (i + 1) = insTo Z p g i ++ [Z.getD i 0] := by
  unfold insTo
  rw [if_pos (by omega), if_pos (by omega), take_succ Z i hi]
theorem insTo_at (Z : List Nat) (p g : Nat) (hi : p < Z.length) : insTo Z p g (p + 1) = insTo Z p g p ++ [g] ++ [Z.getD p 0] := by
  unfold insTo
  rw [if_neg (by omega), if_pos (by omega), show p + 1 - p = 0 + 1 from by omega, take_succ (Z.drop p) 0 (by simp; omega)]
  simp [List.getD]
theorem insTo_hi (Z : List Nat) (p g i : Nat) (h : p < i) (hi : i < Z.length) : insTo Z p g (i + 1) = insTo Z p g i ++ [Z.getD i 0] := by
  unfold insTo
  rw [if_neg (by omega), if_neg (by omega), show i + 1 - p = (i - p) + 1 from by omega, take_succ (Z.drop p) (i - p) (by simp; omega), ← List.append_assoc]
  simp [List.getD, show p + (i - p) = i from by omega]
theorem insTo_end (Z : List Nat) (p g : Nat) (h : p < Z.length) : insTo Z p g Z.length = ins Z p g := by
  unfold insTo ins
  rw [if_neg (by omega), List.take_of_length_le (l := Z.drop p) (by simp)]
theorem insTo_last (Z : List Nat) (g : Nat) : insTo Z Z.length g Z.length ++ [g] = ins Z Z.length g := by
  unfold insTo ins
  simp

/-! ### doubling -/
theorem V_double (r : Nat) : ∃ s, V s = 2 * V r := by
  by_cases h : r < 4503599627370496
  · exact ⟨2 * r, by rw [V_zero_exp (by omega), V_low h]⟩
  · refine ⟨r + 4503599627370496, ?_⟩
    unfold V
    rw [if_neg (by omega), if_neg h, show (r + 4503599627370496) % 4503599627370496 = r % 4503599627370496 from by omega, show (r + 4503599627370496) / 4503599627370496 - 1 = (r / 4503599627370496 - 1) + 1 from by omega, Nat.pow_succ]
    rw [← Nat.mul_assoc, Nat.mul_comm _ 2]

/-- near + near: twice it, exactly, unless it overflows. -/
theorem double_good {x : Nat} (hx : Good x) : ∃ g, double.add x x = some g ∧ Num g ∧ (sv g ≤ sv 9218868437227405311 → Good g ∧ sv g = 2 * sv x) := by
  obtain ⟨neg, r, e, hN, h1, h2⟩ := add_near hx.1 hx.1
  have hs := hx.sv
  have hab : (sv x + sv x).natAbs = 2 * V (rg x) := by rw [hs]; omega
  rw [hab] at hN
  obtain ⟨s, hV⟩ := V_double (rg x)
  have hw := sv_word neg hN.le
  have hq := rg_word neg hN.le
  refine ⟨_, e, by unfold Num; rw [hq]; exact hN.le, fun hle => ?_⟩
  rw [sv_of (show 9218868437227405311 < 9223372036854775808 by omega)] at hle
  have hr : r < 9218868437227405312 := by
    by_cases hc : r < 9218868437227405312
    · exact hc
    · exfalso
      have hri : r = 9218868437227405312 := by have := hN.le; omega
      have hv := V_lt (show 9218868437227405311 < 9218868437227405312 by omega)
      rw [hw, hri] at hle
      cases hn : neg
      · rw [hn] at hle; simp only [Bool.false_eq_true, if_false] at hle; omega
      · have hpos : 0 < sv x + sv x := by
          have : 0 < V (rg x) := by
            by_cases h0 : 0 < V (rg x)
            · exact h0
            · have : r = 0 := hN.eq_of (by omega) (by rw [V_zero]; omega)
              omega
          omega
        rw [h2 hpos] at hn; cases hn
  have hrs : r = s := by
    have hsi : s ≤ 9218868437227405312 := by
      by_cases hc : s ≤ 9218868437227405312
      · exact hc
      · have : 9218868437227405312 ≤ r := hN.ge_of (Nat.le_refl _) (by have := V_lt (show 9218868437227405312 < s by omega); omega)
        omega
    exact hN.eq_of hsi (by omega)
  have hvr : V r = 2 * V (rg x) := by rw [hrs]; exact hV
  have hsv : sv (double.word neg r) = 2 * sv x := by
    rw [hw, hs]
    by_cases hz : V (rg x) = 0
    · have : V r = 0 := by omega
      rw [this, hz]
      cases neg <;> rfl
    · have hn : neg = false := h2 (by omega)
      rw [hn]
      simp only [Bool.false_eq_true, if_false]
      omega
  exact ⟨⟨by rw [hq]; exact hr, by rw [hsv]; have := hx.2; omega⟩, hsv⟩

/-! ### a divisor is known by its value -/
theorem read_same {f f' : Nat} (h1 : ng f = ng f') (h2 : rg f = rg f') : double.read f = double.read f' := by rw [read_def, read_def, h1, h2]
theorem div_same {x f f' : Nat} (hf : Good f) (hf' : Good f') (h0 : 0 < sv f) (h : sv f = sv f') : double.div x f = double.div x f' := by
  have h1 : rg f = rg f' := V_inj (by have := hf.sv; have := hf'.sv; omega)
  have h2 : ng f = ng f' := by rw [ng_pos h0, ng_pos (by omega)]
  unfold Format.div
  rw [read_same h2 h1]

section
variable {TB TW : List Nat} {p g f : Nat}

theorem gauge_lists (H : Lists TB TW) (hp : p ≤ TB.length) (hg : Good g) (hf : Good f) : Lists (ins TB p g) (ins TW p f) where
  ne := by intro e; have := congrArg List.length e; rw [ins_length _ _ _ hp] at this; simp at this
  len := by rw [ins_length _ _ _ hp, ins_length _ _ _ (by rw [H.len]; exact hp), H.len]
  tb := fun z hz => by rcases ins_mem hz with rfl | h; exact hg; exact H.tb z h
  tw := fun z hz => by rcases ins_mem hz with rfl | h; exact hf; exact H.tw z h

theorem gauge_far (H : Lists TB TW) (hp : p ≤ TB.length) (hg : Good g) (hf : Good f) (ef : sv f = sv (foldF fmax TW)) : sv (foldF fmax (ins TW p f)) = sv (foldF fmax TW) := by
  have H2 := gauge_lists H hp hg hf
  obtain ⟨a1, _, a3⟩ := max_pick H.ne2 (fun z hz => (H.tw z hz).num)
  obtain ⟨b1, _, b3⟩ := max_pick H2.ne2 (fun z hz => (H2.tw z hz).num)
  have l1 := b3 _ (mem_ins p f (.inr a1))
  rcases ins_mem b1 with e | e
  · rw [e] at l1 ⊢; omega
  · have := a3 _ e; omega
theorem gauge_near (H : Lists TB TW) (hp : p ≤ TB.length) (hg : Good g) (hf : Good f) (eg : sv (foldF fmin TB) ≤ sv g) : sv (foldF fmin (ins TB p g)) = sv (foldF fmin TB) := by
  have H2 := gauge_lists H hp hg hf
  obtain ⟨a1, _, a3⟩ := min_pick H.ne (fun z hz => (H.tb z hz).num)
  obtain ⟨b1, _, b3⟩ := min_pick H2.ne (fun z hz => (H2.tb z hz).num)
  have l1 := b3 _ (mem_ins p g (.inr a1))
  rcases ins_mem b1 with e | e
  · rw [e] at l1 ⊢; omega
  · have := a3 _ e; omega

/-- ██ every other candidate's closeness is as it was -/
theorem gauge_same (H : Lists TB TW) (hp : p ≤ TB.length) (hg : Good g) (hf : Good f) (ef : sv f = sv (foldF fmax TW)) (eg : sv (foldF fmin TB) ≤ sv g) {i j : Nat} (hb : (ins TB p g).getD j 0 = TB.getD i 0) (hw : (ins TW p f).getD j 0 = TW.getD i 0) :
    cl (ins TB p g) (ins TW p f) j = cl TB TW i := by
  have H2 := gauge_lists H hp hg hf
  have e1 := gauge_far H hp hg hf ef
  have e2 := gauge_near H hp hg hf eg
  have g1 := H.far.1
  have g2 := H2.far.1
  have n1 := H.near.1
  have n2 := H2.near.1
  unfold cl
  rw [e1, e2, hb, hw]
  by_cases hz : sv (foldF fmax TW) = 0
  · rw [if_pos hz, if_pos hz]
  · have hpos : 0 < sv (foldF fmax TW) := by have := g1.2; omega
    rw [if_neg hz, if_neg hz, div_same g2 g1 (by omega) e1]
    by_cases hn : 0 < sv (foldF fmin TB)
    · rw [if_pos hn, if_pos hn, div_same n2 n1 (by omega) e2]
    · rw [if_neg hn, if_neg hn]

theorem good_zero : Good 0 := ⟨by rw [rg_of (by omega)]; omega, by rw [sv_zero]; exact Int.le_refl _⟩
theorem num_neg1 : Num 13830554455654793216 ∧ sv 13830554455654793216 = -(T : Int) ∧ ng 13830554455654793216 = true := by
  have h1 : rg 13830554455654793216 = 4607182418800017408 := by decide
  have h2 : ng 13830554455654793216 = true := by decide
  refine ⟨by unfold Num; rw [h1]; omega, ?_, h2⟩
  unfold sv
  rw [h1, h2, V_one]
  rfl
theorem num_one : Num 4607182418800017408 := by unfold Num; rw [rg_of (by omega)]; omega

theorem V_two : V 4611686018427387904 = 2 * T := by
  obtain ⟨c, hc⟩ : ∃ c : Nat, c = 1023 := ⟨_, rfl⟩
  have h := V_at c 4503599627370496 (by omega) (by omega)
  rw [show c * 4503599627370496 + 4503599627370496 = 4611686018427387904 from by omega] at h
  rw [h, T_eq (51 + c) (by omega), Nat.pow_add]
  generalize 2 ^ c = X
  omega

/-- A good word above nought is its rung. -/
theorem C_of {x y : Nat} (hx : Num x) (hy : Num y) (hs : sv x = sv y) (hn : ng x = ng y) : C x = C y := by rw [C_num hx, C_num hy, hs, hn]

/-- ██ the gauge candidate's own closeness -/
theorem gauge_at (H : Lists TB TW) (hp : p ≤ TB.length) (hg : Good g) (hf : Good f) (ef : sv f = sv (foldF fmax TW)) {m : Nat} (hm : Good m) (em : sv m = sv (foldF fmin TB)) (eg : sv g = 2 * sv m) :
    C (cl (ins TB p g) (ins TW p f) p) = C (if sv f = 0 then 0 else if 0 < sv m then 13830554455654793216 else 4607182418800017408) := by
  have hmn := hm.2
  have hlen : p < (ins TB p g).length := by rw [ins_length _ _ _ hp]; omega
  have H2 := gauge_lists H hp hg hf
  have e1 := gauge_far H hp hg hf ef
  have e2 := gauge_near H hp hg hf (by omega)
  have hb : (ins TB p g).getD p 0 = g := ins_at TB p g hp
  have hw : (ins TW p f).getD p 0 = f := ins_at TW p f (by rw [H.len]; exact hp)
  by_cases hz : sv f = 0
  · rw [if_pos hz, cl_zero (by omega)]
  · rw [if_neg hz]
    have hz2 : sv (foldF fmax (ins TW p f)) ≠ 0 := by omega
    by_cases hn : 0 < sv m
    · rw [if_pos hn]
      obtain ⟨q, u, c, r, d1, d2, d3, c1, c2, _, q1, p2, p3, n1, n2, c3, c4, t1, _⟩ := cl_c H2 hz2 (by omega) hlen
      obtain ⟨q', u', f1, f2, f3⟩ := cl_eq2 H2 hz2 (by omega) hlen
      rw [d1] at f1; cases f1
      rw [d2] at f2; cases f2
      rw [d3] at f3; cases f3
      rw [hw] at t1
      have hq := t1 (by omega)
      rw [hb] at n2
      have sg := hg.sv
      have sn := H2.near.1.sv
      have hu : rg u = 4611686018427387904 := n2.eq_of (by omega) (by
        rw [V_two]
        have : V (rg g) = 2 * V (rg (foldF fmin (ins TB p g))) := by omega
        rw [this, Nat.mul_comm (2 * T), Nat.mul_comm 2 (V _), Nat.mul_assoc])
      have hN := c4 (by omega)
      rw [hq, hu, V_one, V_two] at hN
      have hr : r = 4607182418800017408 := hN.eq_of (by omega) (by rw [V_one]; omega)
      rw [hr, V_one] at c2
      have hneg : ng (cl (ins TB p g) (ins TW p f) p) = true := by
        unfold sv at c2
        cases hc : ng (cl (ins TB p g) (ins TW p f) p)
        · rw [hc] at c2
          simp only [Bool.false_eq_true, if_false] at c2
          have := T_pos
          omega
        · rfl
      exact C_of c1 num_neg1.1 (by rw [c2, num_neg1.2.1]) (by rw [hneg, num_neg1.2.2])
    · rw [if_neg hn]
      obtain ⟨c1, c2, c3, c4⟩ := cl_pos H2 hz2 (by omega) hlen
      rw [hw] at c4
      have hc := c4 (by omega)
      have hT := T_pos
      exact C_of c1 num_one (by rw [hc, sv_one]) (by rw [ng_pos (by omega), ng_of (by omega)])
end
end Go.Proofs.Qxb6619316a.Fl
