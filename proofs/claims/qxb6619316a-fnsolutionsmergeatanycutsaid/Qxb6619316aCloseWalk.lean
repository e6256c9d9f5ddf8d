/-
  THE WALKS of slices.Max, slices.Min, closeness, ZZcloseness.
-/
import Derived.Test.Qxb6619316aRows
import Derived.Test.Qxb6619316aClose
import Derived.WalkKit
import Derived.ProofKit
import Derived.OpenShut
import Derived.WalkLawsBesides
import Derived.Laws.CopyOwn
import Derived.Below
import Derived.Deep.DeepCutAuto
import Derived.Deep.CutBlock
import Derived.Handy
import Derived.WalkSpells
import Derived.BigQuiet
import Derived.RegionTactic
namespace Go.Proofs.Qxb6619316a
open Go.RowKit
open Fl (fmax fmin foldF Num sv cl)

/-- The law that the kit lacks: a float is stored as any other one-cell value is. -/
theorem run_store_float {P : Program} (w : World) (a : Addr) (m : Mode) (k : FloatKind) (b : Nat) : (store a (.float k b) m).run P w = stored P w a (.float k b) m := run_store P w a _ m rfl
attribute [local go_sem] run_store_float

theorem Try.info28 : (Try.prog.info? 28).map (fun i => (i.zero, i.size, i.bytes)) = some (some (.float .f64 0), 1, 8) := by kernel_rfl
theorem Try.size28 : (Try.prog.info? 28).map (·.size) = some 1 := by kernel_rfl

theorem ret_bool {a b : Bool} (h : a = b) : Ending.returned (.bool a) = .returned (.bool b) := by rw [h]
theorem ret_float {a b : Nat} (h : a = b) : Ending.returned (.float .f64 a) = .returned (.float .f64 b) := by rw [h]

/-- The slice at 'a' reads, from its head on, as the floats Z; it lies below block 4503599627370496. -/
def Reads (B0 : Nat) (w : World) (a : Option Addr) (Z : List Nat) : Prop :=
  Z = [] ∨ ∃ b off, a = some ⟨b, off, none⟩ ∧ b < B0 ∧ ∀ j, j < Z.length → w.cell? ⟨b, off + j, none⟩ = some (.float .f64 (Z.getD j 0))

theorem Reads.below {B0 B1 : Nat} {w w' : World} {a : Option Addr} {Z : List Nat} (h : Reads B0 w a Z) (hb : Below B0 w w') (hB : B0 ≤ B1) : Reads B1 w' a Z :=
  h.imp_right fun ⟨b, off, ha, hlt, hc⟩ => ⟨b, off, ha, by omega, fun j hj => by rw [hb.cell (show b < B0 by omega)]; exact hc j hj⟩

theorem read_neg (x : Nat) : (FloatKind.f64.decode x).neg = Fl.ng x := by
  show (Ieee.double.read x).neg = _
  rw [Fl.read_def]
  split
  · rfl
  · split
    · rfl
    · split <;> rfl

theorem run_fmax {P : Program} (w : World) (ts : Array TypeId) (t : TypeId) {x y : Nat} (hx : Num x) (hy : Num y) : (Builtin.max_ ts t #[.float .f64 x, .float .f64 y]).run P w = .ok (.float .f64 (fmax x y)) w := by
  have hd : FloatKind.f64.format.order x y = Ieee.double.order x y := rfl
  unfold fmax
  rcases Fl.order_cases hx hy with ⟨_, e⟩ | ⟨_, e⟩ | ⟨_, e⟩ <;> simp [Builtin.max_, Builtin.max2, hd, e, read_neg]
theorem run_fmin {P : Program} (w : World) (ts : Array TypeId) (t : TypeId) {x y : Nat} (hx : Num x) (hy : Num y) : (Builtin.min_ ts t #[.float .f64 x, .float .f64 y]).run P w = .ok (.float .f64 (fmin x y)) w := by
  have hd : FloatKind.f64.format.order x y = Ieee.double.order x y := rfl
  unfold fmin
  rcases Fl.order_cases hx hy with ⟨_, e⟩ | ⟨_, e⟩ | ⟨_, e⟩ <;> simp [Builtin.min_, Builtin.min2, hd, e, read_neg]

theorem take_num {f : Nat → Nat → Nat} {Z : List Nat} (hpick : ∀ {Z : List Nat}, Z ≠ [] → (∀ z ∈ Z, Num z) → foldF f Z ∈ Z) (hZ : ∀ z ∈ Z, Num z) {k : Nat} (h0 : 0 < k) (hk : k ≤ Z.length) : Num (foldF f (Z.take k)) := by
  have hne : Z.take k ≠ [] := by
    intro e
    have := congrArg List.length e
    rw [List.length_take, List.length_nil] at this
    omega
  have := hpick hne (fun z hz => hZ z (List.mem_of_mem_take hz))
  exact hZ _ (List.mem_of_mem_take this)

set_option maxRecDepth 100000 in
set_option maxHeartbeats 400000 in
/-- slices.Max. -/
theorem max_any (Z : List Nat) (a : Option Addr) (B0 n cap : Nat) (w : World) (hn : Z.length = n) (h0 : 0 < n) (hl : n ≤ 9223372036854775807) (hZ : ∀ z ∈ Z, Num z) (hr : Reads B0 w a Z) :
    Calls Try.prog 22 #[.slice a n cap] w fun e w' => e = .returned (.float .f64 (foldF fmax Z)) ∧ w = w' := by
  subst hn
  obtain ⟨b, off, rfl, _, hc⟩ := hr.resolve_left (by rintro rfl; simp at h0)
  have HC : Hid (∀ j, j < Z.length → w.cell? ⟨b, off + j, none⟩ = some (.float .f64 (Z.getD j 0))) := hc
  have HZ : Hid (∀ z ∈ Z, Num z) := hZ
  obtain ⟨x0, hx0⟩ : ∃ x, Z.getD 0 0 = x := ⟨_, rfl⟩
  have hc0 := HC.out 0 h0
  rw [hx0, Nat.add_zero] at hc0
  have HX0 : Hid (Z.getD 0 0 = x0) := hx0
  clear hc hx0 hZ
  go_enter Try.func22, Try.ntmps22
  go_wp2
  go_loop [3, 4] (fun m i => ∃ k : Nat, 1 ≤ k ∧ k ≤ Z.length ∧ i = .int .i64 k ∧ m = .float .f64 (foldF fmax (Z.take k))) (fun _ i => Z.length - (intOf i).toNat)
  case atStart => exact ⟨1, by omega, by omega, rfl, by rw [Fl.take_succ Z 0 h0, HX0.out]; rfl⟩
  case round =>
    obtain ⟨k, hk1, hk, rfl, rfl⟩ := hrel
    by_cases hlt : k < Z.length
    · obtain ⟨x, hx⟩ : ∃ x, Z.getD k 0 = x := ⟨_, rfl⟩
      have hck := HC.out k hlt
      rw [hx] at hck
      have hm := fun wx => run_fmax (P := Try.prog) wx #[28, 28] 28 (take_num (fun h1 h2 => (Fl.max_pick h1 h2).1) HZ.out hk1 hk) (HZ.out x (by rw [← hx]; exact Fl.mem_getD hlt))
      have HS : Hid (foldF fmax (Z.take (k + 1)) = fmax (foldF fmax (Z.take k)) x) := by show _ = _; rw [← hx]; exact Fl.foldF_take_succ fmax Z k hk1 hlt
      clear hx
      generalize foldF fmax (Z.take k) = m at *
      go_wp2
      go_round
      case rel => exact ⟨k + 1, by omega, by omega, by go_num, by rw [HS.out]⟩
      case measure => simp [intOf]; omega
    · go_wp2
      go_ret
      exact ⟨ret_float (by rw [List.take_of_length_le (by omega)]), rfl⟩
set_option maxRecDepth 100000 in
set_option maxHeartbeats 400000 in
/-- slices.Min. -/
theorem min_any (Z : List Nat) (a : Option Addr) (B0 n cap : Nat) (w : World) (hn : Z.length = n) (h0 : 0 < n) (hl : n ≤ 9223372036854775807) (hZ : ∀ z ∈ Z, Num z) (hr : Reads B0 w a Z) :
    Calls Try.prog 23 #[.slice a n cap] w fun e w' => e = .returned (.float .f64 (foldF fmin Z)) ∧ w = w' := by
  subst hn
  obtain ⟨b, off, rfl, _, hc⟩ := hr.resolve_left (by rintro rfl; simp at h0)
  have HC : Hid (∀ j, j < Z.length → w.cell? ⟨b, off + j, none⟩ = some (.float .f64 (Z.getD j 0))) := hc
  have HZ : Hid (∀ z ∈ Z, Num z) := hZ
  obtain ⟨x0, hx0⟩ : ∃ x, Z.getD 0 0 = x := ⟨_, rfl⟩
  have hc0 := HC.out 0 h0
  rw [hx0, Nat.add_zero] at hc0
  have HX0 : Hid (Z.getD 0 0 = x0) := hx0
  clear hc hx0 hZ
  go_enter Try.func23, Try.ntmps23
  go_wp2
  go_loop [3, 4] (fun m i => ∃ k : Nat, 1 ≤ k ∧ k ≤ Z.length ∧ i = .int .i64 k ∧ m = .float .f64 (foldF fmin (Z.take k))) (fun _ i => Z.length - (intOf i).toNat)
  case atStart => exact ⟨1, by omega, by omega, rfl, by rw [Fl.take_succ Z 0 h0, HX0.out]; rfl⟩
  case round =>
    obtain ⟨k, hk1, hk, rfl, rfl⟩ := hrel
    by_cases hlt : k < Z.length
    · obtain ⟨x, hx⟩ : ∃ x, Z.getD k 0 = x := ⟨_, rfl⟩
      have hck := HC.out k hlt
      rw [hx] at hck
      have hm := fun wx => run_fmin (P := Try.prog) wx #[28, 28] 28 (take_num (fun h1 h2 => (Fl.min_pick h1 h2).1) HZ.out hk1 hk) (HZ.out x (by rw [← hx]; exact Fl.mem_getD hlt))
      have HS : Hid (foldF fmin (Z.take (k + 1)) = fmin (foldF fmin (Z.take k)) x) := by show _ = _; rw [← hx]; exact Fl.foldF_take_succ fmin Z k hk1 hlt
      clear hx
      generalize foldF fmin (Z.take k) = m at *
      go_wp2
      go_round
      case rel => exact ⟨k + 1, by omega, by omega, by go_num, by rw [HS.out]⟩
      case measure => simp [intOf]; omega
    · go_wp2
      go_ret
      exact ⟨ret_float (by rw [List.take_of_length_le (by omega)]), rfl⟩

/-- The cells of a list of floats (a name of its own, so that the walk lets it stand). -/
def U (Z : List Nat) : List Value := Z.map (Value.float .f64)
theorem U_length (Z : List Nat) : (U Z).length = Z.length := by simp [U]
theorem U_snoc (Z : List Nat) (x : Nat) : U (Z ++ [x]) = U Z ++ [.float .f64 x] := by simp [U]
theorem U_one (Z : List Nat) : ∀ u ∈ U Z, u.oneCell' = true := by
  intro u hu
  obtain ⟨_, _, rfl⟩ := List.mem_map.1 hu
  rfl
theorem U_get {Z : List Nat} {j : Nat} (h : j < Z.length) : (U Z)[j]? = some (.float .f64 (Z.getD j 0)) := by
  simp [U, List.getD, h]

/-- The closeness of every candidate. -/
def clAll (TB TW : List Nat) : List Nat := (List.range TB.length).map (cl TB TW)
/-- The row when k of them have been laid. -/
def clTo (TB TW : List Nat) (k : Nat) : List Nat := (List.range TB.length).map fun j => if j < k then cl TB TW j else 0
theorem clAll_length (TB TW : List Nat) : (clAll TB TW).length = TB.length := by simp [clAll]
theorem clTo_length (TB TW : List Nat) (k : Nat) : (clTo TB TW k).length = TB.length := by simp [clTo]
theorem clAll_get (TB TW : List Nat) (k : Nat) (h : k < TB.length) : (clAll TB TW).getD k 0 = cl TB TW k := by simp [clAll, List.getD, h]
theorem clTo_get (TB TW : List Nat) (k : Nat) (h : k < TB.length) : (clTo TB TW k).getD k 0 = 0 := by simp [clTo, List.getD, h]
theorem clTo_zero (TB TW : List Nat) : U (clTo TB TW 0) = List.replicate TB.length (.float .f64 0) := by
  apply List.ext_getElem?
  intro j
  by_cases h : j < TB.length <;> simp [U, clTo, h]
theorem clTo_all (TB TW : List Nat) : clTo TB TW TB.length = clAll TB TW := by
  apply List.ext_getElem?
  intro j
  by_cases h : j < TB.length <;> simp [clAll, clTo, h]
theorem clTo_succ (TB TW : List Nat) (k : Nat) : (U (clTo TB TW k)).set k (.float .f64 (cl TB TW k)) = U (clTo TB TW (k + 1)) := by
  apply List.ext_getElem?
  intro j
  rw [List.getElem?_set]
  by_cases h : j < TB.length
  · by_cases e : k = j
    · subst e; simp [U, clTo, h]
    · have e2 : (j < k + 1) = (j < k) := by simp; omega
      simp [U, clTo, h, e, e2]
  · by_cases e : k = j <;> simp [U, clTo, h, e]
theorem set_set (L : List Value) (k : Nat) (u v : Value) : (L.set k u).set k v = L.set k v := by simp
theorem clAll_zero {TB TW : List Nat} (hf : sv (foldF fmax TW) = 0) : clTo TB TW 0 = clAll TB TW := by
  apply List.ext_getElem?
  intro j
  by_cases h : j < TB.length <;> simp [clAll, clTo, h, Fl.cl_zero hf]

/-- What the call leaves (behind a name, so that the walk lets it stand). -/
def Laid (w : World) (Z : List Nat) (e : Ending) (w' : World) : Prop :=
  e = .returned (.slice (some ⟨w.heap.size, 0, none⟩) Z.length Z.length) ∧ w'.ownsRow w.heap.size 28 1 (.slice (some ⟨w.heap.size, 0, none⟩) Z.length Z.length) Z.length (U Z) ∧ Below w.heap.size w w'

theorem laid_mk {w w' : World} {Z : List Nat} {n : Nat} (h : Z.length = n) (ho : w'.ownsRow w.heap.size 28 1 (.slice (some ⟨w.heap.size, 0, none⟩) n n) n (U Z)) (hb : Below w.heap.size w w') : Laid w Z (.returned (.slice (some ⟨w.heap.size, 0, none⟩) n n)) w' := by
  subst h
  exact ⟨rfl, ho, hb⟩

theorem eq_zero_of {x : Nat} (h : Num x) : (FloatKind.f64.format.order x 0 == some .eq) = decide (sv x = 0) := by
  show (Ieee.double.order x 0 == some .eq) = _
  have hz := Fl.sv_zero
  rcases Fl.order_cases h Fl.num_zero with ⟨h1, e⟩ | ⟨h1, e⟩ | ⟨h1, e⟩ <;> rw [e] <;> rw [hz] at h1
  · rw [decide_eq_false (by omega)]; rfl
  · rw [decide_eq_true (by omega)]; rfl
  · rw [decide_eq_false (by omega)]; rfl
theorem gt_zero_of {x : Nat} (h : Num x) : (FloatKind.f64.format.order x 0 == some .gt) = decide (0 < sv x) := by
  show (Ieee.double.order x 0 == some .gt) = _
  have hz := Fl.sv_zero
  rcases Fl.order_cases h Fl.num_zero with ⟨h1, e⟩ | ⟨h1, e⟩ | ⟨h1, e⟩ <;> rw [e] <;> rw [hz] at h1
  · rw [decide_eq_false (by omega)]; rfl
  · rw [decide_eq_false (by omega)]; rfl
  · rw [decide_eq_true (by omega)]; rfl

set_option maxRecDepth 100000 in
set_option maxHeartbeats 1000000 in
/-- closeness. -/
theorem close_any (TB TW : List Nat) (a b : Option Addr) (n ca cb : Nat) (w : World) (hn : TB.length = n) (hl : n ≤ 1048576) (H : Fl.Lists TB TW) (hA : Reads w.heap.size w a TB) (hB : Reads w.heap.size w b TW) :
    Calls Try.prog 20 #[.slice a n ca, .slice b n cb] w fun e w' => Laid w (clAll TB TW) e w' := by
  have h0 : 0 < n := by
    have := H.ne
    cases TB
    · exact absurd rfl this
    · simp at hn; omega
  have HTB : Hid (TB.length = n) := hn
  have HTW : Hid (TW.length = n) := by show _ = _; rw [H.len]; exact hn
  have HL : Hid (Fl.Lists TB TW) := H
  have HA : Hid (Reads w.heap.size w a TB) := hA
  have HB : Hid (Reads w.heap.size w b TW) := hB
  have HLEN : Hid ((clAll TB TW).length = n) := by show _ = _; rw [clAll_length]; exact hn
  obtain ⟨i0, hi0, hz0, hz1, hz2⟩ := info_parts Try.info28
  clear hn H hA hB
  go_enter Try.func20, Try.ntmps20
  go_wp2_with (at_make; refine wpList_make_full _ rfl _ _ 24 rfl w.heap.size 28 i0 (.float .f64 0) 1 Try.underlying24 hi0 hz0 hz1 _ _ _ _ n rfl rfl rfl rfl (by rw [hz2]; omega) (by unfold maxLen; omega) (Nat.le_refl _) ?_)
  intro w1 hown hgr
  have HB1 : Below w.heap.size w w1 := (Below.refl _ _).grown hgr (Nat.le_refl _) (by simp)
  have HO : Hid (w1.ownsRow w.heap.size 28 1 (.slice (some ⟨w.heap.size, 0, none⟩) n n) n (U (clTo TB TW 0))) := by
    have h := hown
    rw [toList_madeCells_one] at h
    rw [clTo_zero, HTB.out]
    exact h
  clear hown hgr
  go_wp2_with fail
  refine (max_any TW _ _ _ _ _ HTW.out h0 (by omega) (fun z hz => (HL.out.tw z hz).num) (HB.out.below HB1 HB1.size)).mono ?_
  rintro e w' ⟨rfl, rfl⟩
  have gF := HL.out.far.1
  have gN := HL.out.near.1
  have fz := eq_zero_of gF.num
  have nz := gt_zero_of gN.num
  have HGF : Hid (Fl.Good (foldF fmax TW)) := gF
  have HGN : Hid (Fl.Good (foldF fmin TB)) := gN
  clear gF gN
  obtain ⟨fw, hfw⟩ : ∃ x, foldF fmax TW = x := ⟨_, rfl⟩
  obtain ⟨nw, hnw⟩ : ∃ x, foldF fmin TB = x := ⟨_, rfl⟩
  have HFW : Hid (foldF fmax TW = fw) := hfw
  have HNW : Hid (foldF fmin TB = nw) := hnw
  rw [hfw] at fz ⊢
  rw [hnw] at nz
  clear hfw hnw
  by_cases hf : sv fw = 0
  · rw [decide_eq_true hf] at fz
    clear nz
    have HF : Hid (sv fw = 0) := hf
    clear hf
    go_wp2
    go_ret
    have e : clTo TB TW 0 = clAll TB TW := clAll_zero (by rw [HFW.out]; exact HF.out)
    rw [e] at HO
    exact laid_mk HLEN.out HO.out HB1
  · rw [decide_eq_false hf] at fz
    have HF : Hid (¬ sv fw = 0) := hf
    clear hf
    go_wp2_with fail
    refine (min_any TB _ _ _ _ _ HTB.out h0 (by omega) (fun z hz => (HL.out.tb z hz).num) (HA.out.below HB1 HB1.size)).mono ?_
    rintro e w' ⟨rfl, rfl⟩
    rw [HNW.out]
    go_wp2
    go_loopw [21] (fun i wr => ∃ k : Nat, k ≤ n ∧ i = .int .i64 k ∧ wr.ownsRow w.heap.size 28 1 (.slice (some ⟨w.heap.size, 0, none⟩) n n) n (U (clTo TB TW k)) ∧ Below w.heap.size w wr) (fun i _ => n - (intOf i).toNat)
    case atStart => exact ⟨0, Nat.zero_le _, rfl, HO.out, HB1⟩
    case round =>
      obtain ⟨k, hk, rfl, hown, hbel⟩ := hrel
      have HOW : Hid (wr.ownsRow w.heap.size 28 1 (.slice (some ⟨w.heap.size, 0, none⟩) n n) n (U (clTo TB TW k))) := hown
      clear HO HB1
      by_cases hlt : k < n
      · have ltB : k < TB.length := by rw [HTB.out]; exact hlt
        have ltW : k < TW.length := by rw [HTW.out]; exact hlt
        obtain ⟨b0, o0, hae, hg0, hcell0⟩ := HA.out.resolve_left (by rintro e; rw [e] at ltB; simp at ltB)
        obtain ⟨b1, o1, hbe, hg1, hcell1⟩ := HB.out.resolve_left (by rintro e; rw [e] at ltW; simp at ltW)
        subst hae hbe
        obtain ⟨x, hx⟩ : ∃ x, TB.getD k 0 = x := ⟨_, rfl⟩
        obtain ⟨y, hy⟩ : ∃ y, TW.getD k 0 = y := ⟨_, rfl⟩
        have hcx : wr.cell? ⟨b0, o0 + k, none⟩ = some (.float .f64 x) := by rw [hbel.cell (by exact hg0), hcell0 k ltB, hx]
        have hcy : wr.cell? ⟨b1, o1 + k, none⟩ = some (.float .f64 y) := by rw [hbel.cell (by exact hg1), hcell1 k ltW, hy]
        have hcg : wr.cell? ⟨w.heap.size, k, none⟩ = some (.float .f64 0) := by
          rw [hown.cellAt k (by omega), U_get (by rw [clTo_length]; exact ltB), clTo_get TB TW k ltB]
        have hfz : wr.frozen? ⟨w.heap.size, k, none⟩ = false := hown.frozenAt k
        by_cases hnn : 0 < sv nw
        · rw [decide_eq_true hnn] at nz
          obtain ⟨q, p, e1, e2, e3⟩ := Fl.cl_eq2 HL.out (by rw [HFW.out]; exact HF.out) (by rw [HNW.out]; exact hnn) ltB
          rw [hy, HFW.out] at e1
          rw [hx, HNW.out] at e2
          have f1 := fun wx => run_float_arith (P := Try.prog) wx .quo 28 .f64 y fw q e1
          have f2 := fun wx => run_float_arith (P := Try.prog) wx .quo 28 .f64 x nw p e2
          have f3 := fun wx => run_float_arith (P := Try.prog) wx .sub 28 .f64 q p (cl TB TW k) e3
          have hne : ¬ b0 = w.heap.size := by omega
          clear hx hy e1 e2 e3 hcell0 hcell1 ltB ltW hnn
          have R1 := World.ownsRow.stored HOW.out k (.float .f64 q)
          have R2 := World.ownsRow.stored R1.1 k (.float .f64 (cl TB TW k))
          rw [set_set, clTo_succ] at R2
          have HS : Hid (((wr.setCell ⟨w.heap.size, k, none⟩ (.float .f64 q)).setCell ⟨w.heap.size, k, none⟩ (.float .f64 (cl TB TW k))).drew.ownsRow w.heap.size 28 1 (.slice (some ⟨w.heap.size, 0, none⟩) n n) n (U (clTo TB TW (k + 1)))) := R2.1.drew
          have HBE : Hid (Below w.heap.size w ((wr.setCell ⟨w.heap.size, k, none⟩ (.float .f64 q)).setCell ⟨w.heap.size, k, none⟩ (.float .f64 (cl TB TW k))).drew) := ((hbel.setCell (by exact Nat.le_refl _) _).setCell (by exact Nat.le_refl _) _).drew
          clear R1 R2 hown hbel
          go_wp2
          go_region
          go_wp2
          go_roundw
          case rel => exact ⟨k + 1, by omega, by go_num, HS.out, HBE.out⟩
          case measure => simp [intOf]; omega
        · rw [decide_eq_false hnn] at nz
          have e1 := Fl.cl_eq1 HL.out (by rw [HFW.out]; exact HF.out) (by rw [HNW.out]; exact hnn) ltB
          rw [hy, HFW.out] at e1
          have f1 := fun wx => run_float_arith (P := Try.prog) wx .quo 28 .f64 y fw (cl TB TW k) e1
          clear hx hy e1 hcell0 hcell1 ltB ltW hnn hcx
          have R := World.ownsRow.stored HOW.out k (.float .f64 (cl TB TW k))
          rw [clTo_succ] at R
          have HS : Hid _ := R.1
          have HBE : Hid (Below w.heap.size w (wr.setCell ⟨w.heap.size, k, none⟩ (.float .f64 (cl TB TW k)))) := hbel.setCell (by exact Nat.le_refl _) _
          clear R hown hbel
          go_wp2
          go_roundw
          case rel => exact ⟨k + 1, by omega, by go_num, HS.out, HBE.out⟩
          case measure => simp [intOf]; omega
      · have e : clTo TB TW k = clAll TB TW := by rw [show k = TB.length from by rw [HTB.out]; omega]; exact clTo_all TB TW
        rw [e] at HOW
        clear hown e
        go_wp2
        go_ret
        exact laid_mk HLEN.out HOW.out hbel

/-- ZZcloseness passes on. -/
theorem zzclose (TB TW : List Nat) (a b : Option Addr) (n ca cb : Nat) (w : World) (hn : TB.length = n) (hl : n ≤ 1048576) (H : Fl.Lists TB TW) (hA : Reads w.heap.size w a TB) (hB : Reads w.heap.size w b TW) :
    Calls Try.prog 16 #[.slice a n ca, .slice b n cb] w fun e w' => Laid w (clAll TB TW) e w' := by
  have HH := close_any TB TW a b n ca cb w hn hl H hA hB
  have HLEN : (clAll TB TW).length = n := by rw [clAll_length]; exact hn
  have HLE : Hid ((clAll TB TW).length = n) := HLEN
  clear hn H hA hB HLEN
  go_enter Try.func16, Try.ntmps16
  go_wp2_with fail
  refine HH.mono ?_
  rintro e w' ⟨rfl, h1, h2⟩
  rw [HLE.out] at h1 ⊢
  have H1 : Hid _ := h1
  have H2 : Hid _ := h2
  clear h1 h2
  go_wp2
  go_ret
  exact laid_mk HLE.out H1.out H2.out
end Go.Proofs.Qxb6619316a
