/-
  THE WALKS of slices.Clone, solutions, ZZsolutions.
-/
import Derived.Test.Qxb6619316aSame
import Derived.Deep.RegionHeld3
import Derived.BigRegion
namespace Go.Proofs.Qxb6619316a
open Go.RowKit
open Fl (fmax fmin Num sv C omax omin mrgTo mrg accTo sol)
attribute [local go_sem] run_store_float

/-! ### max and min where one is a NaN -/
def nanW (isMax : Bool) (w : World) (x y : Nat) : Nat := (Question.nanMinMax .f64 isMax x y).cut (w.tape w.drawn (Question.nanMinMax .f64 isMax x y))
theorem nanW_C (isMax : Bool) (w : World) (x y : Nat) : C (nanW isMax w x y) = none := by
  apply Fl.C_nan
  unfold nanW Num Fl.rg
  simp only [Question.cut]
  generalize w.tape w.drawn (Question.nanMinMax .f64 isMax x y) = t
  rcases (show t % 2 = 0 ∨ t % 2 = 1 by omega) with h | h <;> rw [h] <;> omega

theorem order_none {x y : Nat} (h : ¬ (Num x ∧ Num y)) : Ieee.double.order x y = none := by
  by_cases hx : Num x
  · have hy : ¬ Num y := fun hy => h ⟨hx, hy⟩
    unfold Ieee.Format.order
    rw [Fl.read_nan (x := y) (by unfold Num at hy; omega)]
    cases Ieee.double.read x <;> rfl
  · exact order_nan hx y

theorem run_nmax {P : Program} (w : World) (ts : Array TypeId) (t : TypeId) {x y : Nat} (h : ¬ (Num x ∧ Num y)) : (Builtin.max_ ts t #[.float .f64 x, .float .f64 y]).run P w = .ok (.float .f64 (nanW true w x y)) w.drew := by
  have hd : FloatKind.f64.format.order x y = none := order_none h
  simp [Builtin.max_, Builtin.max2, hd, nanW, Question.forced]
theorem run_nmin {P : Program} (w : World) (ts : Array TypeId) (t : TypeId) {x y : Nat} (h : ¬ (Num x ∧ Num y)) : (Builtin.min_ ts t #[.float .f64 x, .float .f64 y]).run P w = .ok (.float .f64 (nanW false w x y)) w.drew := by
  have hd : FloatKind.f64.format.order x y = none := order_none h
  simp [Builtin.min_, Builtin.min2, hd, nanW, Question.forced]

theorem C_pick {x y : Nat} (h : ¬ (Num x ∧ Num y)) : omax (C x) (C y) = none ∧ omin (C x) (C y) = none := by
  by_cases hx : Num x
  · have hy : ¬ Num y := fun hy => h ⟨hx, hy⟩
    rw [Fl.C_nan hy, Fl.omax_none_r, Fl.omin_none_r]; exact ⟨rfl, rfl⟩
  · rw [Fl.C_nan hx]; exact ⟨rfl, rfl⟩

/-! ### Clone -/
/-- What Clone leaves. -/
def Cloned (w : World) (Z : List Nat) (e : Ending) (w' : World) : Prop :=
  ∃ v, e = .returned v ∧ w'.ownsRow w.heap.size 28 1 v Z.length (U Z) ∧ Below w.heap.size w w'

set_option maxRecDepth 100000 in
theorem clone_any (Z : List Nat) (a : Option Addr) (B0 n cap : Nat) (w : World) (hn : Z.length = n) (hl : n ≤ 1048576) (hnil : a = none → Z = []) (hr : Reads B0 w a Z) (hB : B0 ≤ w.heap.size) :
    Calls Try.prog 21 #[.slice a n cap] w fun e w' => Cloned w Z e w' := by
  have heq := fun (wx : World) => Lib.run_eql_slice_nil (P := Try.prog) wx 24 28 a n cap 0 0 Try.underlying24
  obtain ⟨i0, hi0, hz0, hz1, hz2⟩ := info_parts Try.info28
  cases a with
  | none =>
    have hZ := hnil rfl
    subst hZ
    have hn0 : n = 0 := by simpa using hn.symm
    subst hn0
    clear hnil hr hn
    go_enter Try.func21, Try.ntmps21
    go_wp2
    go_ret
    exact ⟨_, rfl, World.ownsRow_nil _ _ _ _, Below.refl _ _⟩
  | some ad =>
    have HR : Hid (Reads B0 w (some ad) Z) := hr
    have HN : Hid (Z.length = n) := hn
    have hown0 : (w.alloc (.cells #[] 28)).ownsRow w.heap.size 28 1 (.slice (some ⟨w.heap.size, 0, none⟩) 0 0) 0 [] := World.ownsRow_lit w #[] 0 (Nat.le_refl _) (by omega) rfl
    have HB0 : Below w.heap.size w (w.alloc (.cells #[] 28)) := (Below.refl _ _).alloc (Nat.le_refl _) _
    have hcs : ∀ j u, (U Z)[j]? = some u → (w.alloc (.cells #[] 28)).cell? (ad.add j) = some u := by
      intro j u hu
      have hj : j < Z.length := by have := (List.getElem?_eq_some_iff.1 hu).1; rwa [U_length] at this
      obtain ⟨ad', he, hc⟩ := copy_from HR.out (by rw [U_length]; omega)
      cases he
      have hu2 := hc j u hu
      obtain ⟨b, off, hae, hb, _⟩ := HR.out.resolve_left (by rintro rfl; simp at hj)
      cases hae
      rw [HB0.cell (by rw [Go.WideShapes.add_plain]; exact (show b < w.heap.size by omega))]
      exact hu2
    have HCS : Hid (∀ j u, (U Z)[j]? = some u → (w.alloc (.cells #[] 28)).cell? (ad.add j) = some u) := hcs
    clear hr hn hnil hcs
    go_enter Try.func21, Try.ntmps21
    go_wp2_with (at_builtin; refine wpList_append_own _ rfl _ _ 24 rfl w.heap.size 28 i0 (.float .f64 0) 1 8 Try.underlying24 hi0 hz0 hz1 hz2 rfl (by decide) _ _ _ rfl hown0 ad n cap (U Z) rfl (by rw [U_length, HN.out, Nat.mul_one]) HCS.out (U_one Z) (by unfold maxLen; omega) (by omega) (by simp) ?_)
    intro v w1 hown hgr _
    have HO : Hid (w1.ownsRow w.heap.size 28 1 v n (U Z)) := hown
    have HB1 : Hid (Below w.heap.size w w1) := HB0.grown hgr (by simp) (fun k hk => by simp [Value.ownBlock] at hk; omega)
    clear hown hgr hown0 HB0
    go_wp2
    go_ret
    exact ⟨_, rfl, by rw [HN.out]; exact HO.out, HB1.out⟩

/-! ### the list of rows -/
/-- The outer slice at 'a' holds N rows: row i is a slice at A i that reads as the i-th list. All of it lies below block B0. -/
structure Grid (B0 : Nat) (w : World) (b off N : Nat) (A : Nat → Option Addr) (cp : Nat → Nat) (Z : List (List Nat)) : Prop where
  lt : b < B0
  cell : ∀ i, i < N → w.cell? ⟨b, off + i, none⟩ = some (.slice (A i) (Z.getD i []).length (cp i))
  row : ∀ i, i < N → Reads B0 w (A i) (Z.getD i [])
  nil : ∀ i, i < N → A i = none → Z.getD i [] = []

theorem Grid.below {B0 B1 : Nat} {w w' : World} {b off N : Nat} {A : Nat → Option Addr} {cp : Nat → Nat} {Z : List (List Nat)} (h : Grid B0 w b off N A cp Z) (hb : Below B0 w w') (hB : B0 ≤ B1) : Grid B1 w' b off N A cp Z :=
  ⟨by have := h.lt; omega, fun i hi => by rw [hb.cell (show b < B0 from h.lt)]; exact h.cell i hi, fun i hi => (h.row i hi).below hb hB, h.nil⟩

/-- What is held through the two calls of Clone. -/
def Held (w : World) (p : Addr) (v : Value) (w' : World) : Prop := w'.cell? p = some v ∧ Hid (Below w.heap.size w w')
theorem held_next {w W w1 : World} {p : Addr} {v : Value} (h : W.cell? p = some v ∧ Hid (Below w.heap.size w W)) (hp : p.block < w.heap.size) (hb : Below W.heap.size W w1) : w1.cell? p = some v ∧ Hid (Below w.heap.size w w1) := by
  have hs := h.2.out.size
  exact ⟨by rw [hb.cell (by omega)]; exact h.1, h.2.out.trans (hb.mono hs)⟩

/-- A slice that a call has made, read. -/
def IsS (w : World) (v : Value) (L : List Nat) : Prop := ∃ a c, v = .slice a L.length c ∧ Reads w.heap.size w a L ∧ (a = none → L = [])

/-- What solutions leaves. -/
def SolDone (w : World) (Z : List (List Nat)) (e : Ending) (w' : World) : Prop :=
  ∃ vb vw Bw Ww, e = .returned (.tuple #[vb, vw]) ∧ Bw.map C = sol omax (Z.map (·.map C)) ∧ Ww.map C = sol omin (Z.map (·.map C)) ∧ IsS w' vb Bw ∧ IsS w' vw Ww ∧ Below w.heap.size w w'

theorem own_base {w : World} {base base' n : Nat} {v : Value} {xs : List Value} (h : w.ownsRow base 28 1 v n xs) (hb : base' ≤ base) : w.ownsRow base' 28 1 v n xs := by
  obtain ⟨h1, h2⟩ := h
  refine ⟨h1, ?_⟩
  rcases h2 with h2 | ⟨g, cap, cur, hv, hg, r⟩
  · exact .inl h2
  · exact .inr ⟨g, cap, cur, hv, by omega, r⟩

theorem own_below {w w' : World} {base n : Nat} {v : Value} {xs : List Value} (h : w.ownsRow base 28 1 v n xs) (hb : Below w.heap.size w w') : w'.ownsRow base 28 1 v n xs := by
  obtain ⟨h1, h2⟩ := h
  refine ⟨h1, ?_⟩
  rcases h2 with h2 | ⟨g, cap, cur, hv, hg, hh, r⟩
  · exact .inl h2
  · exact .inr ⟨g, cap, cur, hv, hg, by rw [hb.block g (Array.getElem?_eq_some_iff.1 hh).1]; exact hh, r⟩

theorem own_shape {w : World} {base n : Nat} {v : Value} {xs : List Value} (h : w.ownsRow base 28 1 v n xs) : ∃ a c, v = .slice a n c ∧ (a = none ∧ n = 0 ∨ ∃ g, a = some ⟨g, 0, none⟩ ∧ base ≤ g ∧ g < w.heap.size) := by
  obtain ⟨h1, h2⟩ := h
  rcases h2 with ⟨rfl, rfl⟩ | ⟨g, cap, cur, rfl, hg, hh, r⟩
  · exact ⟨none, 0, rfl, .inl ⟨rfl, rfl⟩⟩
  · exact ⟨_, cap, rfl, .inr ⟨g, rfl, hg, (Array.getElem?_eq_some_iff.1 hh).1⟩⟩

/-- The two rows that solutions owns. -/
structure Two (w wr : World) (ab aw : Option Addr) (cb cw n0 : Nat) (Bw Ww : List Nat) : Prop where
  ob : wr.ownsRow w.heap.size 28 1 (.slice ab n0 cb) n0 (U Bw)
  ow : wr.ownsRow w.heap.size 28 1 (.slice aw n0 cw) n0 (U Ww)
  bel : Below w.heap.size w wr
/-- .. are two. -/
def Apart (ab aw : Option Addr) : Prop := ∀ g h, ab = some ⟨g, 0, none⟩ → aw = some ⟨h, 0, none⟩ → g ≠ h

theorem two_clones {w W0 W1 W2 : World} {v1 v2 : Value} {Y : List Nat} {n0 : Nat} (hn : Y.length = n0) (hS : Hid (Below w.heap.size w W0)) (o1 : W1.ownsRow W0.heap.size 28 1 v1 Y.length (U Y)) (b1 : Below W0.heap.size W0 W1)
    (o2 : W2.ownsRow W1.heap.size 28 1 v2 Y.length (U Y)) (b2 : Below W1.heap.size W1 W2) :
    ∃ ab aw cb cw, v1 = .slice ab n0 cb ∧ v2 = .slice aw n0 cw ∧ Hid (Apart ab aw) ∧ Hid (Two w W2 ab aw cb cw n0 Y Y) := by
  subst hn
  have s0 := hS.out.size
  have s1 := b1.size
  obtain ⟨ab, cb, rfl, r1⟩ := own_shape o1
  obtain ⟨aw, cw, rfl, r2⟩ := own_shape o2
  refine ⟨ab, aw, cb, cw, rfl, rfl, ?_, own_base (own_below o1 b2) s0, own_base o2 (by omega), (hS.out.trans (b1.mono s0)).trans (b2.mono (by omega))⟩
  intro g h e1 e2
  rcases r1 with ⟨rfl, _⟩ | ⟨g1, rfl, _, l1⟩
  · cases e1
  · rcases r2 with ⟨rfl, _⟩ | ⟨g2, rfl, l2, _⟩
    · cases e2
    · cases e1; cases e2
      omega

theorem U_set (Z : List Nat) (k z : Nat) : (U Z).set k (.float .f64 z) = U (Z.set k z) := by simp [U, List.map_set]
theorem Two.drew {w wr : World} {ab aw : Option Addr} {cb cw n0 : Nat} {Bw Ww : List Nat} (h : Two w wr ab aw cb cw n0 Bw Ww) : Two w wr.drew ab aw cb cw n0 Bw Ww := ⟨h.ob.drew, h.ow.drew, h.bel.drew⟩

theorem Two.len {w wr : World} {ab aw : Option Addr} {cb cw n0 : Nat} {Bw Ww : List Nat} (h : Two w wr ab aw cb cw n0 Bw Ww) : Bw.length = n0 ∧ Ww.length = n0 := by
  have h1 := h.ob.1
  have h2 := h.ow.1
  rw [U_length] at h1 h2
  omega

theorem two_setb {w wr : World} {g1 : Nat} {aw : Option Addr} {cb cw n0 : Nat} {Bw Ww : List Nat} (h : Two w wr (some ⟨g1, 0, none⟩) aw cb cw n0 Bw Ww) (hap : Apart (some ⟨g1, 0, none⟩) aw) (k z : Nat) :
    Two w (wr.setCell ⟨g1, k, none⟩ (.float .f64 z)) (some ⟨g1, 0, none⟩) aw cb cw n0 (Bw.set k z) Ww := by
  obtain ⟨r1, r2⟩ := World.ownsRow.stored h.ob k (.float .f64 z)
  have hg : w.heap.size ≤ g1 := (h.ob.lt g1 rfl).1
  refine ⟨by rw [← U_set]; exact r1, h.ow.kept r2 ?_, h.bel.setCell (by exact hg) _⟩
  obtain ⟨a, c, e, r⟩ := own_shape h.ow
  simp only [Value.slice.injEq, true_and] at e
  obtain ⟨rfl, rfl⟩ := e
  rcases r with ⟨rfl, _⟩ | ⟨g2, rfl, _, _⟩
  · exact .inl rfl
  · right
    intro he
    simp [Value.ownBlock] at he
    exact hap g1 g2 rfl rfl he.symm
theorem two_setw {w wr : World} {g2 : Nat} {ab : Option Addr} {cb cw n0 : Nat} {Bw Ww : List Nat} (h : Two w wr ab (some ⟨g2, 0, none⟩) cb cw n0 Bw Ww) (hap : Apart ab (some ⟨g2, 0, none⟩)) (k z : Nat) :
    Two w (wr.setCell ⟨g2, k, none⟩ (.float .f64 z)) ab (some ⟨g2, 0, none⟩) cb cw n0 Bw (Ww.set k z) := by
  obtain ⟨r1, r2⟩ := World.ownsRow.stored h.ow k (.float .f64 z)
  have hg : w.heap.size ≤ g2 := (h.ow.lt g2 rfl).1
  refine ⟨h.ob.kept r2 ?_, by rw [← U_set]; exact r1, h.bel.setCell (by exact hg) _⟩
  obtain ⟨a, c, e, r⟩ := own_shape h.ob
  simp only [Value.slice.injEq, true_and] at e
  obtain ⟨rfl, rfl⟩ := e
  rcases r with ⟨rfl, _⟩ | ⟨g1, rfl, _, _⟩
  · exact .inl rfl
  · right
    intro he
    simp [Value.ownBlock] at he
    exact hap g1 g2 rfl rfl he

theorem two_at {w wr : World} {ab aw : Option Addr} {cb cw n0 : Nat} {Bw Ww : List Nat} (h : Two w wr ab aw cb cw n0 Bw Ww) (h0 : 0 < n0) : ∃ g1 g2, ab = some ⟨g1, 0, none⟩ ∧ aw = some ⟨g2, 0, none⟩ := by
  obtain ⟨a, c, e, r⟩ := own_shape h.ob
  obtain ⟨a', c', e', r'⟩ := own_shape h.ow
  simp only [Value.slice.injEq, true_and] at e e'
  obtain ⟨rfl, rfl⟩ := e
  obtain ⟨rfl, rfl⟩ := e'
  rcases r with ⟨_, h1⟩ | ⟨g1, rfl, _, _⟩
  · omega
  · rcases r' with ⟨_, h1⟩ | ⟨g2, rfl, _, _⟩
    · omega
    · exact ⟨g1, g2, rfl, rfl⟩

/-- A map of classes, one entry set. -/
theorem map_set_C (L : List Nat) (k z : Nat) : (L.set k z).map C = (L.map C).set k (C z) := by simp [List.map_set]
theorem getD_map_C (L : List Nat) (k : Nat) (h : k < L.length) : (L.map C).getD k none = C (L.getD k 0) := by simp [List.getD, h]
theorem getD_map_rows (Z : List (List Nat)) (i : Nat) : (Z.map (·.map C)).getD i [] = (Z.getD i []).map C := by
  by_cases h : i < Z.length <;> simp [List.getD, h]

/-- One step of the merge. -/
theorem mrg_step {f : Option Int → Option Int → Option Int} {acc : Fl.Row} {Bw row : List Nat} {k z : Nat} (hB : Bw.map C = mrgTo f acc (row.map C) k) (h1 : k < Bw.length) (h2 : k < row.length) (hz : C z = f (C (Bw.getD k 0)) (C (row.getD k 0))) :
    (Bw.set k z).map C = mrgTo f acc (row.map C) (k + 1) := by
  have hl : Bw.length = acc.length := by have := congrArg List.length hB; rw [Fl.mrgTo_length] at this; simpa using this
  have e1 : C (Bw.getD k 0) = acc.getD k none := by
    rw [← getD_map_C Bw k h1, hB, Fl.mrgTo_get _ _ _ _ _ (by omega)]
    simp
  rw [map_set_C, hB, hz, e1, ← getD_map_C row k h2, Fl.mrgTo_succ _ _ _ _ (by omega) (by simpa using h2)]

theorem isS_of {w wr : World} {ab : Option Addr} {c n0 : Nat} {Bw : List Nat} (h : wr.ownsRow w.heap.size 28 1 (.slice ab n0 c) n0 (U Bw)) : IsS wr (.slice ab n0 c) Bw := by
  have hl : Bw.length = n0 := by have := h.1; rw [U_length] at this; omega
  obtain ⟨a, c', e, r⟩ := own_shape h
  simp only [Value.slice.injEq, true_and] at e
  obtain ⟨rfl, rfl⟩ := e
  refine ⟨ab, c, by rw [hl], ?_, ?_⟩
  · rcases r with ⟨_, h0⟩ | ⟨g, rfl, _, hg⟩
    · exact .inl (List.eq_nil_of_length_eq_zero (by omega))
    · refine .inr ⟨g, 0, rfl, hg, fun j hj => ?_⟩
      rw [Nat.zero_add, h.cellAt j (by omega), U_get hj]
  · intro e
    rcases r with ⟨_, h0⟩ | ⟨g, rfl, _, hg⟩
    · exact List.eq_nil_of_length_eq_zero (by omega)
    · cases e

theorem sol_done {w wr : World} {Z : List (List Nat)} {R : List Fl.Row} {M n0 cb cw : Nat} {ab aw : Option Addr} {Bw Ww : List Nat} (hR : R = Z.map (·.map C)) (hl : R.length = M + 1) (h1 : Bw.map C = accTo omax R M) (h2 : Ww.map C = accTo omin R M) (hT : Two w wr ab aw cb cw n0 Bw Ww) :
    SolDone w Z (.returned (.tuple #[.slice ab n0 cb, .slice aw n0 cw])) wr := by
  subst hR
  refine ⟨_, _, Bw, Ww, rfl, ?_, ?_, isS_of hT.ob, isS_of hT.ow, hT.bel⟩
  · rw [h1]; unfold sol; rw [hl]; rfl
  · rw [h2]; unfold sol; rw [hl]; rfl

theorem acc_end {f : Option Int → Option Int → Option Int} {R : List Fl.Row} {i : Nat} {row : List Nat} (h : R.getD (i + 1) [] = row.map C) : mrgTo f (accTo f R i) (row.map C) row.length = accTo f R (i + 1) := by
  show _ = mrgTo f (accTo f R i) (R.getD (i + 1) []) (R.getD (i + 1) []).length
  rw [h, List.length_map]

set_option maxRecDepth 100000 in
set_option maxHeartbeats 2000000 in
theorem sol_any (Z : List (List Nat)) (b off N cap n0 : Nat) (A : Nat → Option Addr) (cp : Nat → Nat) (w : World) (hN : Z.length = N) (h1 : 1 ≤ N) (hN2 : N ≤ 1048576) (hn0 : (Z.getD 0 []).length = n0) (hl0 : n0 ≤ 1048576)
    (hlen : ∀ i, i < N → (Z.getD i []).length ≤ n0) (hNc : N ≤ cap) (hG : Grid w.heap.size w b off N A cp Z) :
    Calls Try.prog 18 #[.slice (some ⟨b, off, none⟩) N cap] w fun e w' => SolDone w Z e w' := by
  have HG : Hid (Grid w.heap.size w b off N A cp Z) := hG
  have hc0 := hG.cell 0 (by omega)
  rw [hn0, Nat.add_zero] at hc0
  have HR0 : Hid (Reads w.heap.size w (A 0) (Z.getD 0 [])) := hG.row 0 (by omega)
  have HN0 : Hid (A 0 = none → Z.getD 0 [] = []) := hG.nil 0 (by omega)
  have HL0 : Hid ((Z.getD 0 []).length = n0) := hn0
  have HLEN : Hid (∀ i, i < N → (Z.getD i []).length ≤ n0) := hlen
  have HZ : Hid (Z.length = N) := hN
  have hblt : b < w.heap.size := hG.lt
  generalize hA0 : A 0 = A0 at *
  generalize hcp0 : cp 0 = cp0 at *
  clear hG hn0 hlen hN hA0 hcp0
  have hNi : (0 : Int) < (N : Int) := by omega
  have hNn : 0 < N := by omega
  go_enter Try.func18, Try.ntmps18
  go_wp2_with fail
  go_cut [2, 3] (fun v u wr => ∃ ab aw cb cw, v = .slice ab n0 cb ∧ u = .slice aw n0 cw ∧ Hid (Apart ab aw) ∧ Hid (Two w wr ab aw cb cw n0 (Z.getD 0 []) (Z.getD 0 [])))
  case first =>
    go_region_held3 (fun w' => w'.cell? ⟨b, off, none⟩ = some (.slice A0 n0 cp0) ∧ Hid (Below w.heap.size w w'))
      (first | exact ⟨hc0, (Below.refl _ _).drew⟩ | exact held_next (by assumption) (by exact hblt) (by assumption))
      (first | (go_at_call 21; refine (clone_any (Z.getD 0 []) _ w.heap.size _ _ _ HL0.out hl0 HN0.out (HR0.out.below (Hid.out (And.right (by assumption))) (Nat.le_refl _)) (Below.size (Hid.out (And.right (by assumption))))).mono ?_; rintro e w1 ⟨v, rfl, hown, hbel⟩))
    all_goals go_wp2
    all_goals go_meet
    all_goals exact two_clones HL0.out (show Hid (Below w.heap.size w w.drew) from (Below.refl _ _).drew) (by assumption) (by assumption) (by assumption) (by assumption)
  case rest =>
    obtain ⟨ab, aw, cb, cw, rfl, rfl, HAP, HT⟩ := hcut
    clear HN0 HR0 hc0
    obtain ⟨M, rfl⟩ : ∃ M, N = M + 1 := ⟨N - 1, by omega⟩
    obtain ⟨R, hR⟩ : ∃ R, R = Z.map (·.map C) := ⟨_, rfl⟩
    have HRR : Hid (R = Z.map (·.map C)) := hR
    have HS0 : Hid ((Z.getD 0 []).map C = accTo omax R 0 ∧ (Z.getD 0 []).map C = accTo omin R 0) := by
      have := getD_map_rows Z 0
      rw [hR]
      exact ⟨this.symm, this.symm⟩
    have HRL : Hid (R.length = M + 1) := by show _ = _; rw [hR]; simpa using HZ.out
    clear hR
    by_cases hcap : cap = 1
    · obtain rfl : M = 0 := by omega
      subst hcap
      go_wp2
      refine wp_loop_rounds 1 ?_
      rw [rounds_succ]
      go_wp2
      go_ret2
      exact sol_done HRR.out HRL.out HS0.out.1 HS0.out.2 HT.out
    · have hcap2 : ¬ (cap : Int) = 1 := by omega
      go_wp2
      go_loopg [18] M (fun gk t wr => ∃ i : Nat, i + gk = M ∧ t = .int .i64 i ∧ ∃ Bw Ww, Hid (Bw.map C = accTo omax R i ∧ Ww.map C = accTo omin R i) ∧ Hid (Two w wr ab aw cb cw n0 Bw Ww))
      case atStart => exact ⟨0, by omega, rfl, _, _, HS0, HT⟩
      case round =>
        obtain ⟨gq, hgq⟩ : ∃ q, q = gk := ⟨_, rfl⟩
        subst hgq
        obtain ⟨i, hi, rfl, Bw, Ww, HA, HTW⟩ := hrel
        clear HT HS0
        by_cases hlt : i < M
        · have hGr := HG.out.below HTW.out.bel HTW.out.bel.size
          have hrow := hGr.cell (i + 1) (by omega)
          rw [← Nat.add_assoc, Nat.add_right_comm] at hrow
          have HRW : Hid (Reads w.heap.size w (A (i + 1)) (Z.getD (i + 1) [])) := HG.out.row (i + 1) (by omega)
          have hL := HLEN.out (i + 1) (by omega)
          obtain ⟨row, hrw⟩ : ∃ row, Z.getD (i + 1) [] = row := ⟨_, rfl⟩
          have HROW : Hid (R.getD (i + 1) [] = row.map C) := by show _ = _; rw [HRR.out, getD_map_rows, hrw]
          rw [hrw] at hrow hL HRW
          generalize A (i + 1) = ar at *
          generalize cp (i + 1) = cr at *
          clear hGr hrw
          go_wp2
          go_loopg [24] row.length (fun gk t wx => ∃ k : Nat, k + gk = row.length ∧ t = .int .i64 k ∧ ∃ Bx Wx, Hid (Bx.map C = mrgTo omax (accTo omax R i) (row.map C) k ∧ Wx.map C = mrgTo omin (accTo omin R i) (row.map C) k) ∧ Hid (Two w wx ab aw cb cw n0 Bx Wx))
          case atStart => exact ⟨0, by omega, rfl, Bw, Ww, ⟨by rw [Fl.mrgTo_zero]; exact HA.out.1, by rw [Fl.mrgTo_zero]; exact HA.out.2⟩, HTW⟩
          case round =>
            obtain ⟨k, hk, rfl, Bx, Wx, HAX, HTX⟩ := hrel
            clear HA HTW
            by_cases hlt2 : k < row.length
            · obtain ⟨g1, g2, hab, haw⟩ := two_at HTX.out (show 0 < n0 by omega)
              subst hab haw
              obtain ⟨br, obr, hare, hbr, hcr⟩ := HRW.out.resolve_left (by rintro e; rw [e] at hlt2; simp at hlt2)
              subst hare
              have hcy : wr.cell? ⟨br, obr + k, none⟩ = some (.float .f64 (row.getD k 0)) := by rw [HTX.out.bel.cell (by exact hbr)]; exact hcr k hlt2
              have lb := HTX.out.len
              have hcb : wr.cell? ⟨g1, k, none⟩ = some (.float .f64 (Bx.getD k 0)) := by rw [HTX.out.ob.cellAt k (by omega), U_get (by omega)]
              have hfb : wr.frozen? ⟨g1, k, none⟩ = false := HTX.out.ob.frozenAt k
              have HSB := fun z hz => mrg_step (z := z) HAX.out.1 (by omega) hlt2 hz
              have HSW := fun z hz => mrg_step (z := z) HAX.out.2 (by omega) hlt2 hz
              have HSB2 : Hid (∀ z, C z = omax (C (Bx.getD k 0)) (C (row.getD k 0)) → (Bx.set k z).map C = mrgTo omax (accTo omax R i) (row.map C) (k + 1)) := HSB
              have HSW2 : Hid (∀ z, C z = omin (C (Wx.getD k 0)) (C (row.getD k 0)) → (Wx.set k z).map C = mrgTo omin (accTo omin R i) (row.map C) (k + 1)) := HSW
              have hkn : k < n0 := by omega
              have hki : (k : Int) < (n0 : Int) := by omega
              have hkr : (k : Int) < (row.length : Int) := by omega
              have HCR : Hid (br < w.heap.size) := hbr
              have hcw0 : wr.cell? ⟨g2, k, none⟩ = some (.float .f64 (Wx.getD k 0)) := by rw [HTX.out.ow.cellAt k (by omega), U_get (by omega)]
              have HCW : Hid (wr.cell? ⟨g2, k, none⟩ = some (.float .f64 (Wx.getD k 0))) := hcw0
              have HLB : Hid (Bx.length = n0 ∧ Wx.length = n0) := lb
              clear HSB HSW hcr hbr hcw0 lb
              generalize hx : Bx.getD k 0 = x at *
              generalize hyw : Wx.getD k 0 = xw at *
              generalize hy : row.getD k 0 = y at *
              have HXW : Hid (Wx.getD k 0 = xw) := hyw
              clear hx hyw hy
              go_wp2
              go_cut [] (fun wx => ∃ z, Hid (C z = omax (C x) (C y)) ∧ Hid (Two w wx (some ⟨g1, 0, none⟩) (some ⟨g2, 0, none⟩) cb cw n0 (Bx.set k z) Wx))
              case first =>
                by_cases hxy : Num x ∧ Num y
                · have hm := fun wx => run_fmax (P := Try.prog) wx #[28, 28] 28 hxy.1 hxy.2
                  have HCZ : Hid (C (fmax x y) = omax (C x) (C y)) := Fl.C_fmax hxy.1 hxy.2
                  clear hxy
                  go_region
                  go_wp2
                  go_meet
                  case rel => exact ⟨_, HCZ, (two_setb HTX.out HAP.out k _).drew⟩
                · have hm := fun wx => run_nmax (P := Try.prog) wx #[28, 28] 28 hxy
                  have HCZ : Hid (omax (C x) (C y) = none) := (C_pick hxy).1
                  clear hxy
                  go_region
                  go_wp2
                  go_meet
                  case rel => exact ⟨_, (nanW_C _ _ _ _).trans HCZ.out.symm, (two_setb HTX.out HAP.out k _).drew.drew⟩
              case rest =>
              obtain ⟨z, HCZ, HT8⟩ := hcut
              have hcy2 : wc.cell? ⟨br, obr + k, none⟩ = some (.float .f64 y) := by rw [HT8.out.bel.cell (by exact HCR.out), ← HTX.out.bel.cell (by exact HCR.out)]; exact hcy
              have hcb2 : wc.cell? ⟨g2, k, none⟩ = some (.float .f64 xw) := by rw [HT8.out.ow.cellAt k (by omega), U_get (by have := HLB.out.2; omega), HXW.out]
              have hfb2 : wc.frozen? ⟨g2, k, none⟩ = false := HT8.out.ow.frozenAt k
              clear hcy hcb hfb HTX HCW HXW
              by_cases hxy : Num xw ∧ Num y
              · have hm := fun wx => run_fmin (P := Try.prog) wx #[28, 28] 28 hxy.1 hxy.2
                have HCZ2 : Hid (C (fmin xw y) = omin (C xw) (C y)) := Fl.C_fmin hxy.1 hxy.2
                clear hxy
                go_wp2
                go_region
                go_wp2
                go_roundg (gk - 1)
                case measure => omega
                case rel => exact ⟨k + 1, by omega, by go_num, _, _, ⟨HSB2.out z HCZ.out, HSW2.out _ HCZ2.out⟩, (two_setw HT8.out HAP.out k _).drew⟩
              · have hm := fun wx => run_nmin (P := Try.prog) wx #[28, 28] 28 hxy
                have HCZ2 : Hid (omin (C xw) (C y) = none) := (C_pick hxy).2
                clear hxy
                go_wp2
                go_region
                go_wp2
                go_roundg (gk - 1)
                case measure => omega
                case rel => exact ⟨k + 1, by omega, by go_num, _, _, ⟨HSB2.out z HCZ.out, HSW2.out _ ((nanW_C _ _ _ _).trans HCZ2.out.symm)⟩, (two_setw HT8.out HAP.out k _).drew.drew⟩
            · obtain rfl : k = row.length := by omega
              go_wp2
              go_roundg (gq - 1)
              case measure => omega
              case rel => exact ⟨i + 1, by omega, by go_num, Bx, Wx, ⟨by rw [HAX.out.1]; exact acc_end HROW.out, by rw [HAX.out.2]; exact acc_end HROW.out⟩, HTX⟩
        · obtain rfl : i = M := by omega
          go_wp2
          go_ret2
          exact sol_done HRR.out HRL.out HA.out.1 HA.out.2 HTW.out

/-- ZZsolutions passes on. -/
theorem zzsol (Z : List (List Nat)) (b off N cap n0 : Nat) (A : Nat → Option Addr) (cp : Nat → Nat) (w : World) (hN : Z.length = N) (h1 : 1 ≤ N) (hN2 : N ≤ 1048576) (hn0 : (Z.getD 0 []).length = n0) (hl0 : n0 ≤ 1048576)
    (hlen : ∀ i, i < N → (Z.getD i []).length ≤ n0) (hNc : N ≤ cap) (hG : Grid w.heap.size w b off N A cp Z) :
    Calls Try.prog 8 #[.slice (some ⟨b, off, none⟩) N cap] w fun e w' => SolDone w Z e w' := by
  have HH := sol_any Z b off N cap n0 A cp w hN h1 hN2 hn0 hl0 hlen hNc hG
  clear hN hn0 hlen hG
  go_enter Try.func8, Try.ntmps8
  go_wp2_with fail
  refine HH.mono ?_
  rintro e w' ⟨vb, vw, Bw, Ww, rfl, h2, h3, h4, h5, h6⟩
  have HF : Hid (Bw.map C = sol omax (Z.map (·.map C)) ∧ Ww.map C = sol omin (Z.map (·.map C)) ∧ IsS w' vb Bw ∧ IsS w' vw Ww ∧ Below w.heap.size w w') := ⟨h2, h3, h4, h5, h6⟩
  clear h2 h3 h4 h5 h6 HH
  go_wp2
  go_ret2
  exact ⟨vb, vw, Bw, Ww, rfl, HF.out.1, HF.out.2.1, HF.out.2.2.1, HF.out.2.2.2.1, HF.out.2.2.2.2⟩
end Go.Proofs.Qxb6619316a
