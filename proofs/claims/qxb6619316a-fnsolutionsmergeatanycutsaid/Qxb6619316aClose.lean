/-
  THE PLAIN LAWS of the closeness: no Go in sight. Greatest and least of a list of floats that are no NaN; what the two quotients and their difference come to.
-/
import Derived.Test.Qxb6619316aFloatWords
namespace Go.Proofs.Qxb6619316a.Fl
open Ieee
set_option linter.unusedVariables false

/-- No NaN. -/
def Num (x : Nat) : Prop := rg x ≤ 9218868437227405312
/-- A finite number that is not below nought (either zero is let in). -/
def Good (x : Nat) : Prop := rg x < 9218868437227405312 ∧ 0 ≤ sv x

theorem Good.num {x : Nat} (h : Good x) : Num x := Nat.le_of_lt h.1
/-- A good word's value is its rung's magnitude. -/
theorem Good.sv {x : Nat} (h : Good x) : Fl.sv x = (V (rg x) : Int) := by
  have h2 := h.2
  unfold Fl.sv at h2 ⊢
  cases hn : ng x
  · simp
  · rw [hn] at h2
    simp only [if_true] at h2 ⊢
    omega

/-- Go's max and min of two floats that are no NaN. -/
def fmax (x y : Nat) : Nat := match double.order x y with
  | some .lt => y
  | some .gt => x
  | some .eq => if ng x then y else x
  | none => 0
def fmin (x y : Nat) : Nat := match double.order x y with
  | some .lt => x
  | some .gt => y
  | some .eq => if ng x then x else y
  | none => 0

theorem order_cases {x y : Nat} (hx : Num x) (hy : Num y) : (sv x < sv y ∧ double.order x y = some .lt) ∨ (sv x = sv y ∧ double.order x y = some .eq) ∨ (sv y < sv x ∧ double.order x y = some .gt) := by
  rw [order_sv hx hy]
  by_cases h1 : sv x < sv y
  · exact .inl ⟨h1, by rw [cmp_lt h1]⟩
  · by_cases h2 : sv x = sv y
    · exact .inr (.inl ⟨h2, by rw [cmp_eq h2]⟩)
    · exact .inr (.inr ⟨by omega, by rw [cmp_gt (by omega)]⟩)

theorem fmax_pick {x y : Nat} (hx : Num x) (hy : Num y) : (fmax x y = x ∨ fmax x y = y) ∧ sv x ≤ sv (fmax x y) ∧ sv y ≤ sv (fmax x y) := by
  unfold fmax
  rcases order_cases hx hy with ⟨h, e⟩ | ⟨h, e⟩ | ⟨h, e⟩ <;> rw [e] <;> simp only []
  · exact ⟨by simp, by omega, by omega⟩
  · cases ng x
    · simp only [Bool.false_eq_true, if_false]; exact ⟨by simp, by omega, by omega⟩
    · simp only [if_true]; exact ⟨by simp, by omega, by omega⟩
  · exact ⟨by simp, by omega, by omega⟩
theorem fmin_pick {x y : Nat} (hx : Num x) (hy : Num y) : (fmin x y = x ∨ fmin x y = y) ∧ sv (fmin x y) ≤ sv x ∧ sv (fmin x y) ≤ sv y := by
  unfold fmin
  rcases order_cases hx hy with ⟨h, e⟩ | ⟨h, e⟩ | ⟨h, e⟩ <;> rw [e] <;> simp only []
  · exact ⟨by simp, by omega, by omega⟩
  · cases ng x
    · simp only [Bool.false_eq_true, if_false]; exact ⟨by simp, by omega, by omega⟩
    · simp only [if_true]; exact ⟨by simp, by omega, by omega⟩
  · exact ⟨by simp, by omega, by omega⟩

/-- 'if y < x { x = y }', 'if y > x { x = y }'. -/
def lmin (x y : Nat) : Nat := if double.order y x == some .lt then y else x
def gmax (x y : Nat) : Nat := if double.order y x == some .gt then y else x
theorem lmin_pick {x y : Nat} (hx : Num x) (hy : Num y) : (lmin x y = x ∨ lmin x y = y) ∧ sv (lmin x y) ≤ sv x ∧ sv (lmin x y) ≤ sv y := by
  unfold lmin
  rcases order_cases hy hx with ⟨h, e⟩ | ⟨h, e⟩ | ⟨h, e⟩ <;> rw [e]
  · exact ⟨.inr rfl, by show sv y ≤ _; omega, by show sv y ≤ _; omega⟩
  · exact ⟨.inl rfl, by show sv x ≤ _; omega, by show sv x ≤ _; omega⟩
  · exact ⟨.inl rfl, by show sv x ≤ _; omega, by show sv x ≤ _; omega⟩
theorem gmax_pick {x y : Nat} (hx : Num x) (hy : Num y) : (gmax x y = x ∨ gmax x y = y) ∧ sv x ≤ sv (gmax x y) ∧ sv y ≤ sv (gmax x y) := by
  unfold gmax
  rcases order_cases hy hx with ⟨h, e⟩ | ⟨h, e⟩ | ⟨h, e⟩ <;> rw [e]
  · exact ⟨.inl rfl, by show _ ≤ sv x; omega, by show _ ≤ sv x; omega⟩
  · exact ⟨.inl rfl, by show _ ≤ sv x; omega, by show _ ≤ sv x; omega⟩
  · exact ⟨.inr rfl, by show _ ≤ sv y; omega, by show _ ≤ sv y; omega⟩

/-- Folding from the first element on. -/
def foldF (f : Nat → Nat → Nat) (Z : List Nat) : Nat := match Z with
  | [] => 0
  | x :: xs => xs.foldl f x

theorem foldF_snoc (f : Nat → Nat → Nat) (Z : List Nat) (x : Nat) (h : Z ≠ []) : foldF f (Z ++ [x]) = f (foldF f Z) x := by
  cases Z with
  | nil => exact absurd rfl h
  | cons a as => simp [foldF]

theorem take_succ (Z : List Nat) (k : Nat) (h : k < Z.length) : Z.take (k + 1) = Z.take k ++ [Z.getD k 0] := by
  rw [List.take_succ_eq_append_getElem h]
  simp [List.getD, h]

theorem foldF_take_succ (f : Nat → Nat → Nat) (Z : List Nat) (k : Nat) (h0 : 0 < k) (h : k < Z.length) : foldF f (Z.take (k + 1)) = f (foldF f (Z.take k)) (Z.getD k 0) := by
  rw [take_succ Z k h, foldF_snoc]
  intro e
  have := congrArg List.length e
  rw [List.length_take, List.length_nil] at this
  omega

/-- A fold that always picks one of the two, and never loses in the relation R. -/
theorem fold_pick {f : Nat → Nat → Nat} {R : Int → Int → Prop} (hrefl : ∀ a, R a a) (htrans : ∀ {a b c}, R a b → R b c → R a c)
    (hf : ∀ {x y}, Num x → Num y → (f x y = x ∨ f x y = y) ∧ R (sv x) (sv (f x y)) ∧ R (sv y) (sv (f x y))) :
    ∀ (xs : List Nat) (x : Nat), Num x → (∀ z ∈ xs, Num z) → (xs.foldl f x = x ∨ xs.foldl f x ∈ xs) ∧ Num (xs.foldl f x) ∧ R (sv x) (sv (xs.foldl f x)) ∧ ∀ z ∈ xs, R (sv z) (sv (xs.foldl f x))
  | [], x, hx, _ => ⟨.inl rfl, hx, hrefl _, by simp⟩
  | y :: ys, x, hx, hs => by
    have hy := hs y (by simp)
    obtain ⟨p1, p2, p3⟩ := hf hx hy
    have hn : Num (f x y) := by rcases p1 with e | e <;> rw [e] <;> assumption
    obtain ⟨q1, q2, q3, q4⟩ := fold_pick hrefl htrans hf ys (f x y) hn (fun z hz => hs z (by simp [hz]))
    simp only [List.foldl_cons]
    refine ⟨?_, q2, htrans p2 q3, fun z hz => ?_⟩
    · rcases q1 with e | e
      · rw [e]
        rcases p1 with e | e
        · exact .inl e
        · exact .inr (by rw [e]; simp)
      · exact .inr (by simp [e])
    · rcases List.mem_cons.1 hz with rfl | hz
      · exact htrans p3 q3
      · exact q4 z hz

theorem foldF_pick {f : Nat → Nat → Nat} {R : Int → Int → Prop} (hrefl : ∀ a, R a a) (htrans : ∀ {a b c}, R a b → R b c → R a c)
    (hf : ∀ {x y}, Num x → Num y → (f x y = x ∨ f x y = y) ∧ R (sv x) (sv (f x y)) ∧ R (sv y) (sv (f x y))) {Z : List Nat} (hne : Z ≠ []) (hZ : ∀ z ∈ Z, Num z) :
    foldF f Z ∈ Z ∧ Num (foldF f Z) ∧ ∀ z ∈ Z, R (sv z) (sv (foldF f Z)) := by
  cases Z with
  | nil => exact absurd rfl hne
  | cons x xs =>
    obtain ⟨p1, p2, p3, p4⟩ := fold_pick hrefl htrans hf xs x (hZ x (by simp)) (fun z hz => hZ z (by simp [hz]))
    refine ⟨?_, p2, ?_⟩
    · simp only [foldF]
      rcases p1 with e | e
      · rw [e]; simp
      · simp [e]
    · intro z hz
      rcases List.mem_cons.1 hz with rfl | hz
      · exact p3
      · exact p4 z hz

theorem max_pick {Z : List Nat} (hne : Z ≠ []) (hZ : ∀ z ∈ Z, Num z) : foldF fmax Z ∈ Z ∧ Num (foldF fmax Z) ∧ ∀ z ∈ Z, sv z ≤ sv (foldF fmax Z) :=
  foldF_pick (R := fun a b => a ≤ b) (fun a => Int.le_refl a) Int.le_trans (fun hx hy => fmax_pick hx hy) hne hZ
theorem min_pick {Z : List Nat} (hne : Z ≠ []) (hZ : ∀ z ∈ Z, Num z) : foldF fmin Z ∈ Z ∧ Num (foldF fmin Z) ∧ ∀ z ∈ Z, sv (foldF fmin Z) ≤ sv z :=
  foldF_pick (R := fun a b => b ≤ a) (fun a => Int.le_refl a) (fun h1 h2 => Int.le_trans h2 h1) (fun hx hy => fmin_pick hx hy) hne hZ
theorem far_pick {Z : List Nat} (hne : Z ≠ []) (hZ : ∀ z ∈ Z, Num z) : foldF gmax Z ∈ Z ∧ Num (foldF gmax Z) ∧ ∀ z ∈ Z, sv z ≤ sv (foldF gmax Z) :=
  foldF_pick (R := fun a b => a ≤ b) (fun a => Int.le_refl a) Int.le_trans (fun hx hy => gmax_pick hx hy) hne hZ
theorem near_pick {Z : List Nat} (hne : Z ≠ []) (hZ : ∀ z ∈ Z, Num z) : foldF lmin Z ∈ Z ∧ Num (foldF lmin Z) ∧ ∀ z ∈ Z, sv (foldF lmin Z) ≤ sv z :=
  foldF_pick (R := fun a b => b ≤ a) (fun a => Int.le_refl a) (fun h1 h2 => Int.le_trans h2 h1) (fun hx hy => lmin_pick hx hy) hne hZ

theorem far_max {Z : List Nat} (hne : Z ≠ []) (hZ : ∀ z ∈ Z, Num z) : sv (foldF gmax Z) = sv (foldF fmax Z) := by
  obtain ⟨a1, _, a3⟩ := max_pick hne hZ
  obtain ⟨b1, _, b3⟩ := far_pick hne hZ
  have := a3 _ b1
  have := b3 _ a1
  omega
theorem near_min {Z : List Nat} (hne : Z ≠ []) (hZ : ∀ z ∈ Z, Num z) : sv (foldF lmin Z) = sv (foldF fmin Z) := by
  obtain ⟨a1, _, a3⟩ := min_pick hne hZ
  obtain ⟨b1, _, b3⟩ := near_pick hne hZ
  have := a3 _ b1
  have := b3 _ a1
  omega

/-! ### the two quotients and their difference -/
theorem V_one : V 4607182418800017408 = T := by
  obtain ⟨c, hc⟩ : ∃ c : Nat, c = 1022 := ⟨_, rfl⟩
  have h := V_at c 4503599627370496 (by omega) (by omega)
  rw [show c * 4503599627370496 + 4503599627370496 = 4607182418800017408 from by omega] at h
  rw [h, T_eq (52 + c) (by omega), Nat.pow_add]

theorem rg_of {r : Nat} (h : r < 9223372036854775808) : rg r = r := by unfold rg; exact Nat.mod_eq_of_lt h
theorem ng_of {r : Nat} (h : r < 9223372036854775808) : ng r = false := by
  unfold ng
  rw [Nat.div_eq_of_lt h]
  rfl
theorem sv_of {r : Nat} (h : r < 9223372036854775808) : sv r = (V r : Int) := by
  unfold sv
  rw [ng_of h, rg_of h]
  simp
theorem num_zero : Num 0 := by unfold Num; rw [rg_of (by omega)]; omega
theorem sv_zero : sv 0 = 0 := by rw [sv_of (by omega), V_zero]; rfl
theorem sv_one : sv 4607182418800017408 = (T : Int) := by rw [sv_of (by omega), V_one]

theorem ng_pos {x : Nat} (h : 0 < sv x) : ng x = false := by
  unfold sv at h
  cases hn : ng x
  · rfl
  · rw [hn] at h
    simp only [if_true] at h
    omega
theorem rg_pos {x : Nat} (h : sv x ≠ 0) : 0 < rg x := by
  by_cases hc : 0 < rg x
  · exact hc
  · exfalso
    apply h
    unfold sv
    rw [show rg x = 0 from by omega, V_zero]
    cases ng x <;> rfl

/-- A good number by a greater one: a good quotient, at most 1. -/
theorem div_worst {x f : Nat} (hx : Good x) (hf : Good f) (h0 : 0 < sv f) (hle : sv x ≤ sv f) :
    ∃ q, double.div x f = some q ∧ Good q ∧ rg q ≤ 4607182418800017408 ∧ Near (rg q) (V (rg x) * T) (V (rg f)) ∧ (sv x = sv f → sv q = (T : Int)) := by
  obtain ⟨r, e, hN⟩ := div_near hx.1 hf.1 (rg_pos (by omega))
  have sx := hx.sv
  have sf := hf.sv
  have hr : r ≤ 4607182418800017408 := hN.le_of (by omega) (by rw [V_one, Nat.mul_comm T]; exact Nat.mul_le_mul_right _ (by omega))
  have q1 := rg_word (ng x ^^ ng f) hN.le
  have q2 := sv_word (ng x ^^ ng f) hN.le
  rw [ng_pos h0, Bool.xor_false] at e q1 q2
  have hs : sv (double.word (ng x) r) = (V r : Int) := by
    rw [q2]
    cases hn : ng x
    · rfl
    · have h2 := hx.2
      unfold sv at h2
      rw [hn] at h2
      simp only [if_true] at h2
      have v0 : V (rg x) = 0 := by omega
      rw [v0, Nat.zero_mul] at hN
      have r0 : r = 0 := hN.eq_of (by omega) (by rw [V_zero, Nat.zero_mul])
      rw [r0, V_zero]
      rfl
  refine ⟨_, e, ⟨by rw [q1]; omega, by rw [hs]; omega⟩, by rw [q1]; exact hr, by rw [q1]; exact hN, fun h => ?_⟩
  have : r = 4607182418800017408 := hN.eq_of (by omega) (by rw [V_one, Nat.mul_comm T]; congr 1; omega)
  rw [hs, this, V_one]

/-- A good number by a lesser one above nought: a quotient of at least 1, it may be infinite. -/
theorem div_best {x f : Nat} (hx : Good x) (hf : Good f) (h0 : 0 < sv f) (hle : sv f ≤ sv x) :
    ∃ q, double.div x f = some q ∧ ng q = false ∧ 4607182418800017408 ≤ rg q ∧ rg q ≤ 9218868437227405312 ∧ Near (rg q) (V (rg x) * T) (V (rg f)) ∧ (sv x = sv f → rg q = 4607182418800017408) := by
  obtain ⟨r, e, hN⟩ := div_near hx.1 hf.1 (rg_pos (by omega))
  have sx := hx.sv
  have sf := hf.sv
  have hr : 4607182418800017408 ≤ r := hN.ge_of (by omega) (by rw [V_one, Nat.mul_comm T]; exact Nat.mul_le_mul_right _ (by omega))
  have q1 := rg_word (ng x ^^ ng f) hN.le
  have q2 := ng_word (ng x ^^ ng f) hN.le
  rw [ng_pos h0, ng_pos (show 0 < sv x by omega), Bool.xor_false] at e q1 q2
  refine ⟨_, e, q2, by rw [q1]; exact hr, by rw [q1]; exact hN.le, by rw [q1]; exact hN, fun h => ?_⟩
  rw [q1]
  exact hN.eq_of (by omega) (by rw [V_one, Nat.mul_comm T]; congr 1; omega)

theorem sub_inf {x y : Nat} (hx : rg x < 9218868437227405312) (hy : rg y = 9218868437227405312) (hn : ng y = false) : double.sub x y = some (double.word true 9218868437227405312) := by
  obtain ⟨m, i, ex, _, _⟩ := read_fin hx
  unfold Format.sub
  rw [ex, read_inf hy, hn]
  rfl

/-- The first quotient less the second: never above nought. -/
theorem sub_close {q p : Nat} (hq : Good q) (hq1 : rg q ≤ 4607182418800017408) (hn : ng p = false) (hp1 : 4607182418800017408 ≤ rg p) (hp2 : rg p ≤ 9218868437227405312) :
    ∃ c r, double.sub q p = some c ∧ Num c ∧ sv c = -(V r : Int) ∧ (rg p = 9218868437227405312 → r = 9218868437227405312) ∧ (rg p < 9218868437227405312 → Near r (V (rg p) - V (rg q)) 1) ∧ r ≤ 9218868437227405312 := by
  by_cases hi : rg p = 9218868437227405312
  · refine ⟨_, 9218868437227405312, sub_inf hq.1 hi hn, ?_, ?_, fun _ => rfl, fun h => by omega, Nat.le_refl _⟩
    · unfold Num
      rw [rg_word true (Nat.le_refl _)]
      exact Nat.le_refl _
    · rw [sv_word true (Nat.le_refl _)]
      rfl
  · obtain ⟨neg, r, e, hN, h1, h2⟩ := sub_near hq.1 (show rg p < 9218868437227405312 by omega)
    have sq := hq.sv
    have sp : sv p = (V (rg p) : Int) := by unfold sv; rw [hn]; rfl
    have hle : V (rg q) ≤ V (rg p) := V_le (by omega)
    have hab : (sv q - sv p).natAbs = V (rg p) - V (rg q) := by rw [sq, sp]; omega
    refine ⟨_, r, e, ?_, ?_, fun h => absurd h hi, fun _ => by rw [← hab]; exact hN, hN.le⟩
    · unfold Num
      rw [rg_word neg hN.le]
      exact hN.le
    · rw [sv_word neg hN.le]
      by_cases hz : sv q - sv p < 0
      · rw [h1 hz]; rfl
      · have r0 : r = 0 := hN.eq_of (by omega) (by rw [V_zero]; omega)
        rw [r0, V_zero]
        cases neg <;> rfl

/-! ### the closeness, as a plain function -/
def cl (TB TW : List Nat) (k : Nat) : Nat :=
  if sv (foldF fmax TW) = 0 then 0
  else if 0 < sv (foldF fmin TB) then (double.sub ((double.div (TW.getD k 0) (foldF fmax TW)).getD 0) ((double.div (TB.getD k 0) (foldF fmin TB)).getD 0)).getD 0
  else (double.div (TW.getD k 0) (foldF fmax TW)).getD 0

theorem mem_getD {Z : List Nat} {k : Nat} (h : k < Z.length) : Z.getD k 0 ∈ Z := by
  simp [List.getD, h]

/-- What the lists must be. -/
structure Lists (TB TW : List Nat) : Prop where
  ne : TB ≠ []
  len : TW.length = TB.length
  tb : ∀ z ∈ TB, Good z
  tw : ∀ z ∈ TW, Good z

theorem Lists.ne2 {TB TW : List Nat} (h : Lists TB TW) : TW ≠ [] := by
  intro e
  have := h.len
  rw [e] at this
  exact h.ne (List.eq_nil_of_length_eq_zero this.symm)

theorem Lists.far {TB TW : List Nat} (h : Lists TB TW) : Good (foldF fmax TW) ∧ ∀ k, k < TW.length → sv (TW.getD k 0) ≤ sv (foldF fmax TW) := by
  obtain ⟨a, _, c⟩ := max_pick h.ne2 (fun z hz => (h.tw z hz).num)
  exact ⟨h.tw _ a, fun k hk => c _ (mem_getD hk)⟩
theorem Lists.near {TB TW : List Nat} (h : Lists TB TW) : Good (foldF fmin TB) ∧ ∀ k, k < TB.length → sv (foldF fmin TB) ≤ sv (TB.getD k 0) := by
  obtain ⟨a, _, c⟩ := min_pick h.ne (fun z hz => (h.tb z hz).num)
  exact ⟨h.tb _ a, fun k hk => c _ (mem_getD hk)⟩

/-- The first quotient. -/
theorem cl_q {TB TW : List Nat} (h : Lists TB TW) (hf : sv (foldF fmax TW) ≠ 0) {k : Nat} (hk : k < TB.length) :
    ∃ q, double.div (TW.getD k 0) (foldF fmax TW) = some q ∧ Good q ∧ rg q ≤ 4607182418800017408 ∧ Near (rg q) (V (rg (TW.getD k 0)) * T) (V (rg (foldF fmax TW))) ∧ (sv (TW.getD k 0) = sv (foldF fmax TW) → sv q = (T : Int)) := by
  have hl := h.len
  obtain ⟨g, le⟩ := h.far
  have := g.2
  exact div_worst (h.tw _ (mem_getD (by omega))) g (by omega) (le k (by omega))

/-- The second quotient, and the difference. -/
theorem cl_c {TB TW : List Nat} (h : Lists TB TW) (hf : sv (foldF fmax TW) ≠ 0) (hn : 0 < sv (foldF fmin TB)) {k : Nat} (hk : k < TB.length) :
    ∃ q p c r, double.div (TW.getD k 0) (foldF fmax TW) = some q ∧ double.div (TB.getD k 0) (foldF fmin TB) = some p ∧ double.sub q p = some c ∧ Num c ∧ sv c = -(V r : Int) ∧ r ≤ 9218868437227405312 ∧
      rg q ≤ 4607182418800017408 ∧ 4607182418800017408 ≤ rg p ∧ rg p ≤ 9218868437227405312 ∧ Near (rg q) (V (rg (TW.getD k 0)) * T) (V (rg (foldF fmax TW))) ∧ Near (rg p) (V (rg (TB.getD k 0)) * T) (V (rg (foldF fmin TB))) ∧
      (rg p = 9218868437227405312 → r = 9218868437227405312) ∧ (rg p < 9218868437227405312 → Near r (V (rg p) - V (rg q)) 1) ∧ (sv (TW.getD k 0) = sv (foldF fmax TW) → rg q = 4607182418800017408) ∧ (sv (TB.getD k 0) = sv (foldF fmin TB) → rg p = 4607182418800017408) := by
  obtain ⟨q, e1, g1, q1, n1, t1⟩ := cl_q h hf hk
  obtain ⟨g, le⟩ := h.near
  obtain ⟨p, e2, p1, p2, p3, n2, t2⟩ := div_best (h.tb _ (mem_getD hk)) g hn (le k hk)
  obtain ⟨c, r, e3, c1, c2, c3, c4, c5⟩ := sub_close g1 q1 p1 p2 p3
  refine ⟨q, p, c, r, e1, e2, e3, c1, c2, c5, q1, p2, p3, n1, n2, c3, c4, fun ht => ?_, t2⟩
  have := t1 ht
  rw [g1.sv] at this
  exact V_inj (by rw [V_one]; omega)

/-- ██ all nought where every candidate sits on the worst -/
theorem cl_zero {TB TW : List Nat} (hf : sv (foldF fmax TW) = 0) (k : Nat) : cl TB TW k = 0 := by unfold cl; rw [if_pos hf]

theorem cl_eq1 {TB TW : List Nat} (h : Lists TB TW) (hf : sv (foldF fmax TW) ≠ 0) (hn : ¬ 0 < sv (foldF fmin TB)) {k : Nat} (hk : k < TB.length) : double.div (TW.getD k 0) (foldF fmax TW) = some (cl TB TW k) := by
  obtain ⟨q, e, _⟩ := cl_q h hf hk
  unfold cl
  rw [if_neg hf, if_neg hn, e]
  rfl
theorem cl_eq2 {TB TW : List Nat} (h : Lists TB TW) (hf : sv (foldF fmax TW) ≠ 0) (hn : 0 < sv (foldF fmin TB)) {k : Nat} (hk : k < TB.length) :
    ∃ q p, double.div (TW.getD k 0) (foldF fmax TW) = some q ∧ double.div (TB.getD k 0) (foldF fmin TB) = some p ∧ double.sub q p = some (cl TB TW k) := by
  obtain ⟨q, p, c, r, e1, e2, e3, _⟩ := cl_c h hf hn hk
  refine ⟨q, p, e1, e2, ?_⟩
  unfold cl
  rw [if_neg hf, if_pos hn, e1, e2, Option.getD_some, Option.getD_some, e3]
  rfl

/-- ██ where some candidate sits on the best: between 0 and 1; 1 at the farthest from the worst -/
theorem cl_pos {TB TW : List Nat} (h : Lists TB TW) (hf : sv (foldF fmax TW) ≠ 0) (hn : ¬ 0 < sv (foldF fmin TB)) {k : Nat} (hk : k < TB.length) :
    Num (cl TB TW k) ∧ 0 ≤ sv (cl TB TW k) ∧ sv (cl TB TW k) ≤ (T : Int) ∧ (sv (TW.getD k 0) = sv (foldF fmax TW) → sv (cl TB TW k) = (T : Int)) := by
  obtain ⟨q, e, g, q1, _, t⟩ := cl_q h hf hk
  have e2 := cl_eq1 h hf hn hk
  rw [e] at e2
  cases e2
  refine ⟨g.num, g.2, ?_, t⟩
  rw [g.sv, ← V_one]
  have := V_le q1
  omega

/-- ██ where none does: at most 0; 0 at one that is nearest and farthest -/
theorem cl_neg {TB TW : List Nat} (h : Lists TB TW) (hf : sv (foldF fmax TW) ≠ 0) (hn : 0 < sv (foldF fmin TB)) {k : Nat} (hk : k < TB.length) :
    Num (cl TB TW k) ∧ sv (cl TB TW k) ≤ 0 ∧ (sv (TB.getD k 0) = sv (foldF fmin TB) → sv (TW.getD k 0) = sv (foldF fmax TW) → sv (cl TB TW k) = 0) := by
  obtain ⟨q, p, c, r, e1, e2, e3, c1, c2, c5, q1, p2, p3, n1, n2, c3, c4, t1, t2⟩ := cl_c h hf hn hk
  obtain ⟨q', p', f1, f2, f3⟩ := cl_eq2 h hf hn hk
  rw [e1] at f1; cases f1
  rw [e2] at f2; cases f2
  rw [e3] at f3; cases f3
  refine ⟨c1, by omega, fun hb hw => ?_⟩
  have g1 := t1 hw
  have g2 := t2 hb
  have hN := c4 (by omega)
  rw [g1, g2, Nat.sub_self] at hN
  have r0 : r = 0 := hN.eq_of (by omega) (by rw [V_zero])
  rw [c2, r0, V_zero]
  rfl

theorem sv_rg_le {x y : Nat} (hx : Good x) (hy : Good y) (h : sv x ≤ sv y) : V (rg x) ≤ V (rg y) := by
  rw [hx.sv, hy.sv] at h
  omega

/-- ██ dominance -/
theorem cl_dom {TB TW : List Nat} (h : Lists TB TW) {i j : Nat} (hi : i < TB.length) (hj : j < TB.length) (hb : sv (TB.getD i 0) ≤ sv (TB.getD j 0)) (hw : sv (TW.getD j 0) ≤ sv (TW.getD i 0)) :
    Num (cl TB TW i) ∧ Num (cl TB TW j) ∧ sv (cl TB TW j) ≤ sv (cl TB TW i) := by
  have hl := h.len
  by_cases hf : sv (foldF fmax TW) = 0
  · rw [cl_zero hf, cl_zero hf]
    exact ⟨num_zero, num_zero, Int.le_refl _⟩
  have vw := sv_rg_le (h.tw _ (mem_getD (show j < TW.length by omega))) (h.tw _ (mem_getD (show i < TW.length by omega))) hw
  have vb := sv_rg_le (h.tb _ (mem_getD hi)) (h.tb _ (mem_getD hj)) hb
  by_cases hn : 0 < sv (foldF fmin TB)
  · obtain ⟨q, p, c, r, e1, e2, e3, c1, c2, c5, q1, p2, p3, n1, n2, c3, c4, _⟩ := cl_c h hf hn hi
    obtain ⟨q', p', c', r', e1', e2', e3', c1', c2', c5', q1', p2', p3', n1', n2', c3', c4', _⟩ := cl_c h hf hn hj
    obtain ⟨a, b, f1, f2, f3⟩ := cl_eq2 h hf hn hi
    rw [e1] at f1; cases f1
    rw [e2] at f2; cases f2
    rw [e3] at f3; cases f3
    obtain ⟨a, b, f1, f2, f3⟩ := cl_eq2 h hf hn hj
    rw [e1'] at f1; cases f1
    rw [e2'] at f2; cases f2
    rw [e3'] at f3; cases f3
    refine ⟨c1, c1', ?_⟩
    have hq : rg q' ≤ rg q := n1'.mono n1 (Nat.mul_le_mul_right _ (Nat.mul_le_mul_right _ vw))
    have hp : rg p ≤ rg p' := n2.mono n2' (Nat.mul_le_mul_right _ (Nat.mul_le_mul_right _ vb))
    have hr : r ≤ r' := by
      by_cases hi' : rg p' = 9218868437227405312
      · rw [c3' hi']; exact c5
      · have m1 := c4 (by omega)
        have m2 := c4' (by omega)
        have v1 := V_le hq
        have v2 := V_le hp
        exact m1.mono m2 (by omega)
    rw [c2, c2']
    have := V_le hr
    omega
  · obtain ⟨q, e, g, q1, n1, _⟩ := cl_q h hf hi
    obtain ⟨q', e', g', q1', n1', _⟩ := cl_q h hf hj
    have f1 := cl_eq1 h hf hn hi
    have f2 := cl_eq1 h hf hn hj
    rw [e] at f1; cases f1
    rw [e'] at f2; cases f2
    refine ⟨g.num, g'.num, ?_⟩
    have hq : rg (cl TB TW j) ≤ rg (cl TB TW i) := n1'.mono n1 (Nat.mul_le_mul_right _ (Nat.mul_le_mul_right _ vw))
    rw [g.sv, g'.sv]
    have := V_le hq
    omega
end Go.Proofs.Qxb6619316a.Fl
