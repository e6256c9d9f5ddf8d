/-
  THE WALK of FnClosenessGaugeCandidatePutInAnywhere.
-/
import Derived.Test.Qxb6619316aSame
import Derived.Test.Qxb6619316aGaugeParts
namespace Go.Proofs.Qxb6619316a
open Go.RowKit
open Fl (fmax fmin lmin gmax foldF Num sv cl C ins insTo)
attribute [local go_sem] run_store_float

set_option maxRecDepth 100000 in
set_option maxHeartbeats 4000000 in
theorem gauge_walk (TB TW : List Nat) (a b : Option Addr) (ca cb : Nat) (p : Int) (w : World) (hn1 : TB.length ≤ 65536) (hn2 : TW.length ≤ 65536) (bi1 : -9223372036854775808 ≤ p) (bi2 : p ≤ 9223372036854775807) (hA : CameIn w a ca TB) (hB : CameIn w b cb TW) :
    Calls Try.prog 5 #[.slice a TB.length ca, .slice b TW.length cb, .int .i64 p] w fun e w' => e = .returned (.bool true) ∧ Below w.heap.size w w' := by
  have HA : Hid (CameIn w a ca TB) := hA
  have HB : Hid (CameIn w b cb TW) := hB
  have HBY := bytes15 a b TB.length TW.length ca cb p w (by omega) (by omega)
  have hneq0 := fun (wx : World) => run_neq_slice_nil_any (P := Try.prog) wx 24 28 a TB.length ca 0 0 Try.underlying24
  have hneq1 := fun (wx : World) => run_neq_slice_nil_any (P := Try.prog) wx 24 28 b TW.length cb 0 0 Try.underlying24
  obtain ⟨i0, hi0, hz0, hz1, hz2⟩ := info_parts Try.info28
  clear hA hB
  go_enter Try.func5, Try.ntmps5
  go_wp2_with fail
  refine HBY.mono ?_
  clear HBY
  rintro e w' ⟨r, rfl, _, rfl⟩
  cases r with
  | false =>
    clear hneq0 hneq1
    go_wp2
    go_ret
    exact ⟨rfl, Below.refl _ _⟩
  | true =>
  go_upto_if 37 with fail
  go_cut [0] (fun v wr => Kept wr v TB ∧ Below w.heap.size w wr)
  case first => as_aux_lemma =>
    clear hneq0
    cases a with
    | none =>
      obtain ⟨hZ, hc0⟩ := HA.out.1 rfl
      have HE : Hid (TB = []) := hZ
      have hl0 : TB.length = 0 := by rw [hZ]; rfl
      have HK : Hid (Kept w (.slice none TB.length ca) TB) := ⟨none, by rw [hl0, hc0], .inl hZ⟩
      clear hZ hc0 hl0
      go_wp2
      go_meet
      case rel => exact ⟨HK.out, Below.refl _ _⟩
    | some x =>
      go_wp2_with (at_make; refine wpList_make_full _ rfl _ _ 24 rfl w.heap.size 28 i0 (.float .f64 0) 1 Try.underlying24 hi0 hz0 hz1 _ _ _ _ TB.length rfl rfl rfl rfl (by rw [hz2]; omega) (by unfold maxLen; omega) (Nat.le_refl _) ?_)
      intro w1 hown hgr
      obtain ⟨cur, hcur, hcl⟩ := full_block hown
      have HB1 : Below w.heap.size w w1 := (Below.refl _ _).grown hgr (Nat.le_refl _) (by simp)
      have HX : Hid (Reads w1.heap.size w1 (some x) TB) := HA.out.2.below HB1 HB1.size
      have HL : Hid (cur.length = TB.length) := hcl
      clear hcl hown hgr
      go_wp2_with (refine wpList_copy_splice rfl (.tmp 41) (.tmp 42) 24 24 rfl 28 Try.underlying24 Try.size28 _ _ _ _ _ _ rfl rfl w.heap.size 0 cur 28 hcur (U TB) (by simp [U]) (fun h => ⟨rfl, copy_from HX.out h⟩) (by simp [U, HL.out]) (U_one TB) w.heap.size w HB1 (Nat.le_refl _) ?_)
      intro w2 HG HB2
      rw [splice_all (by simp [U, HL.out])] at HG
      have HK : Hid (Kept w2 (.slice (some ⟨w.heap.size, 0, none⟩) TB.length TB.length) TB) := ⟨_, rfl, reads_block HG.out⟩
      clear HG HX HL hcur
      go_wp2
      go_meet
      case rel => exact ⟨HK.out, HB2⟩
  case rest =>
  obtain ⟨⟨a', rfl, hra⟩, hb1⟩ := hcut
  obtain ⟨wa, hwa⟩ : ∃ x, x = wc := ⟨_, rfl⟩
  subst hwa
  have HRA : Hid (Reads wa.heap.size wa a' TB) := hra
  have HB2 : Hid (CameIn wa b cb TW) := HB.out.below hb1
  clear hra HA HB hneq0
  go_upto_if 46 with fail
  go_cut [1] (fun v wr => Kept wr v TW ∧ Below wa.heap.size wa wr)
  case first => as_aux_lemma =>
    clear hneq1
    cases b with
    | none =>
      obtain ⟨hZ, hc0⟩ := HB2.out.1 rfl
      have HE : Hid (TW = []) := hZ
      have hl0 : TW.length = 0 := by rw [hZ]; rfl
      have HK : Hid (Kept wa (.slice none TW.length cb) TW) := ⟨none, by rw [hl0, hc0], .inl hZ⟩
      clear hZ hc0 hl0
      go_wp2
      go_meet
      case rel => exact ⟨HK.out, Below.refl _ _⟩
    | some x =>
      go_wp2_with (at_make; refine wpList_make_full _ rfl _ _ 24 rfl wa.heap.size 28 i0 (.float .f64 0) 1 Try.underlying24 hi0 hz0 hz1 _ _ _ _ TW.length rfl rfl rfl rfl (by rw [hz2]; omega) (by unfold maxLen; omega) (Nat.le_refl _) ?_)
      intro w1 hown hgr
      obtain ⟨cur, hcur, hcl⟩ := full_block hown
      have HB1 : Below wa.heap.size wa w1 := (Below.refl _ _).grown hgr (Nat.le_refl _) (by simp)
      have HX : Hid (Reads w1.heap.size w1 (some x) TW) := HB2.out.2.below HB1 HB1.size
      have HL : Hid (cur.length = TW.length) := hcl
      clear hcl hown hgr
      go_wp2_with (refine wpList_copy_splice rfl (.tmp 50) (.tmp 51) 24 24 rfl 28 Try.underlying24 Try.size28 _ _ _ _ _ _ rfl rfl wa.heap.size 0 cur 28 hcur (U TW) (by simp [U]) (fun h => ⟨rfl, copy_from HX.out h⟩) (by simp [U, HL.out]) (U_one TW) wa.heap.size wa HB1 (Nat.le_refl _) ?_)
      intro w2 HG HB2
      rw [splice_all (by simp [U, HL.out])] at HG
      have HK : Hid (Kept w2 (.slice (some ⟨wa.heap.size, 0, none⟩) TW.length TW.length) TW) := ⟨_, rfl, reads_block HG.out⟩
      clear HG HX HL hcur
      go_wp2
      go_meet
      case rel => exact ⟨HK.out, HB2⟩
  case rest =>
  obtain ⟨⟨b', rfl, hrb⟩, hb2⟩ := hcut
  obtain ⟨wb, hwb⟩ : ∃ x, x = wc := ⟨_, rfl⟩
  subst hwb
  have HRA2 : Hid (Reads wb.heap.size wb a' TB) := HRA.out.below hb2 hb2.size
  have HBL : Hid (Below w.heap.size w wb) := hb1.trans (hb2.mono hb1.size)
  have HRB : Hid (Reads wb.heap.size wb b' TW) := hrb
  clear hb1 hb2 hrb HRA HB2 hneq1
  by_cases z0 : ((TB.length : Int) == 0) = true
  · go_wp2
    go_ret
    exact ⟨rfl, HBL.out⟩
  have hne0 : ((TB.length : Int) == 0) = false := by simpa using z0
  by_cases z1 : ((TW.length : Int) != (TB.length : Int)) = true
  · clear z0
    go_wp2
    go_ret
    exact ⟨rfl, HBL.out⟩
  have HLEN : Hid (TW.length = TB.length) := by have : (TW.length : Int) = TB.length := by simpa using z1
                                                show _ = _; omega
  have h0 : 0 < TB.length := by have : ¬ (TB.length : Int) = 0 := by simpa using z0
                                omega
  rw [HLEN.out]
  clear z0 z1 hn2
  by_cases z2 : p < 0
  · go_wp2
    go_ret
    exact ⟨rfl, HBL.out⟩
  by_cases z3 : (TB.length : Int) < p
  · go_wp2
    go_ret
    exact ⟨rfl, HBL.out⟩
  obtain ⟨p, rfl⟩ := Int.eq_ofNat_of_zero_le (show 0 ≤ p by omega)
  have hp : p ≤ TB.length := by omega
  clear z2 z3 bi1 bi2
  obtain ⟨b0, o0, hae, hg0, hcell0⟩ := HRA2.out.resolve_left (by rintro e; rw [e] at h0; simp at h0)
  obtain ⟨b1, o1, hbe, hg1, hcell1⟩ := HRB.out.resolve_left (by rintro e; have := HLEN.out; rw [e] at this; simp at this; omega)
  subst hae hbe
  have HC0 : Hid (∀ j, j < TB.length → wb.cell? ⟨b0, o0 + j, none⟩ = some (.float .f64 (TB.getD j 0))) := hcell0
  have HC1 : Hid (∀ j, j < TB.length → wb.cell? ⟨b1, o1 + j, none⟩ = some (.float .f64 (TW.getD j 0))) := by rw [← HLEN.out]; exact hcell1
  have HR0 : Hid (Reads wb.heap.size wb (some ⟨b0, o0, none⟩) TB) := .inr ⟨b0, o0, rfl, hg0, hcell0⟩
  have HR1 : Hid (Reads wb.heap.size wb (some ⟨b1, o1, none⟩) TW) := .inr ⟨b1, o1, rfl, hg1, hcell1⟩
  have HG0 : Hid (b0 < wb.heap.size) := hg0
  have HG1 : Hid (b1 < wb.heap.size) := hg1
  clear HRA2 HRB hcell0 hcell1 hg0 hg1
  go_upto_block 0 with fail
  go_cut [] from 54 to 70 (fun wr => Hid (∀ m, m < TB.length → Fl.Good (TB.getD m 0) ∧ Fl.Good (TW.getD m 0)) ∧ wb = wr)
  case first => as_aux_lemma =>
    clear hne0
    go_wp2
    go_loop [10] (fun v => ∃ k : Nat, k ≤ TB.length ∧ v = .int .i64 k ∧ Hid (∀ m, m < k → Fl.Good (TB.getD m 0) ∧ Fl.Good (TW.getD m 0))) (fun v => TB.length - (intOf v).toNat)
    case atStart => exact ⟨0, Nat.zero_le _, rfl, fun m hm => absurd hm (Nat.not_lt_zero _)⟩
    case round =>
      obtain ⟨k, hk, rfl, HG⟩ := hrel
      by_cases hlt : k < TB.length
      · have hc0 := HC0.out k hlt
        have hc1 := HC1.out k hlt
        obtain ⟨x, hx⟩ : ∃ x, TB.getD k 0 = x := ⟨_, rfl⟩
        obtain ⟨y, hy⟩ : ∃ y, TW.getD k 0 = y := ⟨_, rfl⟩
        rw [hx] at hc0
        rw [hy] at hc1
        have HX : Hid (TB.getD k 0 = x) := hx
        have HY : Hid (TW.getD k 0 = y) := hy
        clear hx hy
        cases p1 : (FloatKind.f64.format.order x 0 == some .gt || FloatKind.f64.format.order x 0 == some .eq) with
        | false =>
          go_wp2
          go_ret
          exact ⟨rfl, HBL.out⟩
        | true =>
        cases p2 : (FloatKind.f64.format.order x 9218868437227405311 == some .lt || FloatKind.f64.format.order x 9218868437227405311 == some .eq) with
        | false =>
          go_wp2
          go_ret
          exact ⟨rfl, HBL.out⟩
        | true =>
        cases p3 : (FloatKind.f64.format.order y 0 == some .gt || FloatKind.f64.format.order y 0 == some .eq) with
        | false =>
          go_wp2
          go_ret
          exact ⟨rfl, HBL.out⟩
        | true =>
        cases p4 : (FloatKind.f64.format.order y 9218868437227405311 == some .lt || FloatKind.f64.format.order y 9218868437227405311 == some .eq) with
        | false =>
          go_wp2
          go_ret
          exact ⟨rfl, HBL.out⟩
        | true =>
        have HG2 : Hid (∀ m, m < k + 1 → Fl.Good (TB.getD m 0) ∧ Fl.Good (TW.getD m 0)) := by
          intro m hm
          by_cases e : m = k
          · subst e
            rw [HX.out, HY.out]
            exact ⟨good_of p1 p2, good_of p3 p4⟩
          · exact HG.out m (by omega)
        clear HX HY
        go_wp2
        go_round
        case rel => exact ⟨k + 1, by omega, by go_num, HG2⟩
        case measure => simp [intOf]; omega
      · obtain rfl : k = TB.length := by omega
        go_wp2
        go_meet
        case rel => exact ⟨HG, rfl⟩
  case rest =>
  obtain ⟨HG, rfl⟩ := hcut
  have HLIST : Hid (Fl.Lists TB TW) := ⟨by intro e; rw [e] at h0; simp at h0, HLEN.out, by
      intro z hz
      obtain ⟨m, hm, rfl⟩ := List.getElem_of_mem hz
      have := (HG.out m hm).1
      simpa [List.getD, hm] using this, by
      intro z hz
      obtain ⟨m, hm, rfl⟩ := List.getElem_of_mem hz
      have := (HG.out m (by rw [← HLEN.out]; exact hm)).2
      simpa [List.getD, hm] using this⟩
  have hc00 := HC0.out 0 h0
  have hc10 := HC1.out 0 h0
  obtain ⟨x0, hx0⟩ : ∃ x, TB.getD 0 0 = x := ⟨_, rfl⟩
  obtain ⟨y0, hy0⟩ : ∃ y, TW.getD 0 0 = y := ⟨_, rfl⟩
  rw [hx0, Nat.add_zero] at hc00
  rw [hy0, Nat.add_zero] at hc10
  have HX0 : Hid (foldF lmin (TB.take 1) = x0) := by show _ = _; rw [Fl.take_succ TB 0 h0, hx0]; rfl
  have HY0 : Hid (foldF gmax (TW.take 1) = y0) := by show _ = _; rw [Fl.take_succ TW 0 (by rw [HLEN.out]; exact h0), hy0]; rfl
  clear hx0 hy0
  go_upto_block 2 with fail
  go_cut [11, 12] from 104 to 109 (fun v u wr => v = .float .f64 (foldF lmin TB) ∧ u = .float .f64 (foldF gmax TW) ∧ wb = wr)
  case first => as_aux_lemma =>
    clear hne0 hc00 hc10
    go_wp2
    go_loop [11, 12, 13] (fun v u t => ∃ k : Nat, 1 ≤ k ∧ k ≤ TB.length ∧ t = .int .i64 k ∧ v = .float .f64 (foldF lmin (TB.take k)) ∧ u = .float .f64 (foldF gmax (TW.take k))) (fun _ _ t => TB.length - (intOf t).toNat)
    case atStart => exact ⟨1, by omega, by omega, rfl, by rw [HX0.out], by rw [HY0.out]⟩
    case round =>
      obtain ⟨k, hk1, hk, rfl, rfl, rfl⟩ := hrel
      clear HX0 HY0
      by_cases hlt : k < TB.length
      · have hc0 := HC0.out k hlt
        have hc1 := HC1.out k hlt
        obtain ⟨x, hx⟩ : ∃ x, TB.getD k 0 = x := ⟨_, rfl⟩
        obtain ⟨y, hy⟩ : ∃ y, TW.getD k 0 = y := ⟨_, rfl⟩
        rw [hx] at hc0
        rw [hy] at hc1
        have HS1 : Hid (foldF lmin (TB.take (k + 1)) = lmin (foldF lmin (TB.take k)) x) := by show _ = _; rw [← hx]; exact Fl.foldF_take_succ lmin TB k hk1 hlt
        have HS2 : Hid (foldF gmax (TW.take (k + 1)) = gmax (foldF gmax (TW.take k)) y) := by show _ = _; rw [← hy]; exact Fl.foldF_take_succ gmax TW k hk1 (by rw [HLEN.out]; exact hlt)
        clear hx hy
        generalize foldF lmin (TB.take k) = m at *
        generalize foldF gmax (TW.take k) = f at *
        cases p1 : (FloatKind.f64.format.order x m == some .lt) <;> cases p2 : (FloatKind.f64.format.order y f == some .gt)
        · have E1 : Hid (lmin m x = m) := by unfold lmin; rw [show (Ieee.double.order x m == some .lt) = false from p1]; rfl
          have E2 : Hid (gmax f y = f) := by unfold gmax; rw [show (Ieee.double.order y f == some .gt) = false from p2]; rfl
          go_wp2
          go_round
          case rel => exact ⟨k + 1, by omega, by omega, by go_num, by rw [HS1.out, E1.out], by rw [HS2.out, E2.out]⟩
          case measure => simp [intOf]; omega
        · have E1 : Hid (lmin m x = m) := by unfold lmin; rw [show (Ieee.double.order x m == some .lt) = false from p1]; rfl
          have E2 : Hid (gmax f y = y) := by unfold gmax; rw [show (Ieee.double.order y f == some .gt) = true from p2]; rfl
          go_wp2
          go_round
          case rel => exact ⟨k + 1, by omega, by omega, by go_num, by rw [HS1.out, E1.out], by rw [HS2.out, E2.out]⟩
          case measure => simp [intOf]; omega
        · have E1 : Hid (lmin m x = x) := by unfold lmin; rw [show (Ieee.double.order x m == some .lt) = true from p1]; rfl
          have E2 : Hid (gmax f y = f) := by unfold gmax; rw [show (Ieee.double.order y f == some .gt) = false from p2]; rfl
          go_wp2
          go_round
          case rel => exact ⟨k + 1, by omega, by omega, by go_num, by rw [HS1.out, E1.out], by rw [HS2.out, E2.out]⟩
          case measure => simp [intOf]; omega
        · have E1 : Hid (lmin m x = x) := by unfold lmin; rw [show (Ieee.double.order x m == some .lt) = true from p1]; rfl
          have E2 : Hid (gmax f y = y) := by unfold gmax; rw [show (Ieee.double.order y f == some .gt) = true from p2]; rfl
          go_wp2
          go_round
          case rel => exact ⟨k + 1, by omega, by omega, by go_num, by rw [HS1.out, E1.out], by rw [HS2.out, E2.out]⟩
          case measure => simp [intOf]; omega
      · obtain rfl : k = TB.length := by omega
        have e2 : TW.take TB.length = TW := by rw [← HLEN.out]; exact List.take_of_length_le (Nat.le_refl _)
        rw [List.take_of_length_le (Nat.le_refl _), e2]
        clear e2
        go_wp2
        go_meet
        case rel => exact ⟨rfl, rfl, rfl⟩
  case rest =>
  obtain ⟨rfl, rfl, rfl⟩ := hcut
  clear hc00 hc10 HX0 HY0 hne0
  have HTBN : Hid (∀ z ∈ TB, Num z) := fun z hz => (HLIST.out.tb z hz).num
  have HTWN : Hid (∀ z ∈ TW, Num z) := fun z hz => (HLIST.out.tw z hz).num
  obtain ⟨m0, hm0⟩ : ∃ x, foldF lmin TB = x := ⟨_, rfl⟩
  obtain ⟨f0, hf0⟩ : ∃ x, foldF gmax TW = x := ⟨_, rfl⟩
  have HM : Hid (Fl.Good m0 ∧ sv m0 = sv (foldF fmin TB)) := by rw [← hm0]; exact ⟨HLIST.out.tb _ (Fl.near_pick HLIST.out.ne HTBN.out).1, Fl.near_min HLIST.out.ne HTBN.out⟩
  have HF : Hid (Fl.Good f0 ∧ sv f0 = sv (foldF fmax TW)) := by rw [← hf0]; exact ⟨HLIST.out.tw _ (Fl.far_pick HLIST.out.ne2 HTWN.out).1, Fl.far_max HLIST.out.ne2 HTWN.out⟩
  rw [hm0, hf0]
  clear hm0 hf0 HTBN HTWN
  obtain ⟨g, hga, hgn, hgg⟩ := Fl.double_good HM.out.1
  have fa := fun wx => run_float_arith (P := Try.prog) wx .add 28 .f64 m0 m0 g hga
  have qg := gt_b hgn num_max
  by_cases hov : sv 9218868437227405311 < sv g
  · rw [decide_eq_true hov] at qg
    clear hgg hga hgn hov
    go_wp2
    go_ret
    exact ⟨rfl, HBL.out⟩
  rw [decide_eq_false hov] at qg
  obtain ⟨gg, ge⟩ := hgg (by omega)
  have HGG : Hid (Fl.Good g ∧ sv g = 2 * sv m0) := ⟨gg, ge⟩
  clear hgg hga hgn hov gg ge
  obtain ⟨gw, hgw⟩ : ∃ x, x = (if sv f0 = 0 then 0 else if 0 < sv m0 then 13830554455654793216 else 4607182418800017408) := ⟨_, rfl⟩
  have HGW : Hid (gw = (if sv f0 = 0 then 0 else if 0 < sv m0 then 13830554455654793216 else 4607182418800017408)) := hgw
  clear hgw
  obtain ⟨z1, t1⟩ : ∃ z, (FloatKind.f64.format.order f0 0 == some .eq) = z := ⟨_, rfl⟩
  obtain ⟨z2, t2⟩ : ∃ z, (FloatKind.f64.format.order m0 0 == some .gt) = z := ⟨_, rfl⟩
  have HZ1 : Hid (z1 = decide (sv f0 = 0)) := by rw [← t1, eq_b HF.out.1.num Fl.num_zero, Fl.sv_zero]; exact rfl
  have HZ2 : Hid (z2 = decide (0 < sv m0)) := by rw [← t2, gt_b HM.out.1.num Fl.num_zero, Fl.sv_zero]; exact rfl
  go_upto_if 141 with fail
  go_cut [15] from 135 to 143 (fun v wr => v = .float .f64 gw ∧ wb = wr)
  case first => as_aux_lemma =>
    clear fa qg t1
    cases z1 with
    | true =>
      have HE : Hid (gw = 0) := by show _ = _; rw [HGW.out, if_pos (of_decide_eq_true HZ1.out.symm)]
      clear t2 HZ1 HZ2 HGW
      go_wp2
      go_meet
      case rel => exact ⟨by rw [HE.out], rfl⟩
    | false =>
      cases z2 with
      | true =>
        have HE : Hid (gw = 13830554455654793216) := by show _ = _; rw [HGW.out, if_neg (of_decide_eq_false HZ1.out.symm), if_pos (of_decide_eq_true HZ2.out.symm)]
        clear HZ1 HZ2 HGW
        go_wp2
        go_meet
        case rel => exact ⟨by rw [HE.out], rfl⟩
      | false =>
        have HE : Hid (gw = 4607182418800017408) := by show _ = _; rw [HGW.out, if_neg (of_decide_eq_false HZ1.out.symm), if_neg (of_decide_eq_false HZ2.out.symm)]
        clear HZ1 HZ2 HGW
        go_wp2
        go_meet
        case rel => exact ⟨by rw [HE.out], rfl⟩
  case rest =>
  obtain ⟨rfl, rfl⟩ := hcut
  clear fa qg t1 t2 HZ1 HZ2
  go_wp2_with (at_make; refine wpList_make_own _ rfl _ (.tmp 145) 24 rfl wb.heap.size 28 i0 (.float .f64 0) 1 Try.underlying24 hi0 hz0 hz1 _ _ _ (TB.length + 1) rfl rfl (by omega) (by rw [hz2]; omega) (by unfold maxLen; omega) (Nat.le_refl _) ?_)
  intro w1 hown1 hgr1
  have HB1 : Below wb.heap.size wb w1 := (Below.refl _ _).grown hgr1 (Nat.le_refl _) (by simp)
  have hG : wb.heap.size < w1.heap.size := (hown1.lt wb.heap.size rfl).2
  go_wp2_with (at_make; refine wpList_make_own _ rfl _ (.tmp 148) 24 rfl w1.heap.size 28 i0 (.float .f64 0) 1 Try.underlying24 hi0 hz0 hz1 _ _ _ (TB.length + 1) rfl rfl (by omega) (by rw [hz2]; omega) (by unfold maxLen; omega) (Nat.le_refl _) ?_)
  intro w2 hown2 hgr2
  obtain ⟨G2, hG2⟩ : ∃ x, x = w1.heap.size := ⟨_, rfl⟩
  have HP0 : Hid (Pair wb w2 wb.heap.size G2 0 0 (TB.length + 1) [] []) := by rw [hG2]; exact pair_start hown1 hgr1 hown2 hgr2 hG
  rw [← hG2] at hG ⊢
  clear hown1 hgr1 hown2 hgr2 HB1 hG2
  go_upto_block 4 with fail
  go_cut [16, 17] from 144 to 149 (fun v u wr => ∃ l, (l = TB.length ∨ l = TB.length + 1) ∧ v = .slice (some ⟨wb.heap.size, 0, none⟩) l (TB.length + 1) ∧ u = .slice (some ⟨G2, 0, none⟩) l (TB.length + 1) ∧ Hid ((p < TB.length → l = TB.length + 1) ∧ (p = TB.length → l = TB.length)) ∧ Hid (Pair wb wr wb.heap.size G2 l l (TB.length + 1) (insTo TB p g TB.length) (insTo TW p f0 TB.length)))
  case first => as_aux_lemma =>
    go_wp2
    go_loopw [16, 17, 18] (fun v u t wr => ∃ k l, k ≤ TB.length ∧ t = .int .i64 (k : Nat) ∧ ((k ≤ p ∧ l = k) ∨ (p < k ∧ l = k + 1)) ∧ v = .slice (some ⟨wb.heap.size, 0, none⟩) l (TB.length + 1) ∧ u = .slice (some ⟨G2, 0, none⟩) l (TB.length + 1) ∧ Hid (Pair wb wr wb.heap.size G2 l l (TB.length + 1) (insTo TB p g k) (insTo TW p f0 k)))
      (fun _ _ t _ => TB.length - (intOf t).toNat)
    case atStart => exact ⟨0, 0, by omega, rfl, .inl ⟨by omega, rfl⟩, rfl, rfl, by unfold insTo; rw [if_pos (Nat.zero_le _), if_pos (Nat.zero_le _)]; exact HP0⟩
    case round =>
      obtain ⟨k, l, hk, rfl, hl, rfl, rfl, HP⟩ := hrel
      clear HP0
      by_cases hlt : k < TB.length
      · have hltW : k < TW.length := by rw [HLEN.out]; exact hlt
        have hc0 : wr.cell? ⟨b0, o0 + k, none⟩ = some (.float .f64 (TB.getD k 0)) := by rw [HP.out.bel.cell (by exact HG0.out)]; exact HC0.out k hlt
        have HC1k : Hid (∀ W, Below wb.heap.size wb W → W.cell? ⟨b1, o1 + k, none⟩ = some (.float .f64 (TW.getD k 0))) := fun W hW => by rw [hW.cell (by exact HG1.out)]; exact HC1.out k hlt
        have HC0k : Hid (∀ W, Below wb.heap.size wb W → W.cell? ⟨b0, o0 + k, none⟩ = some (.float .f64 (TB.getD k 0))) := fun W hW => by rw [hW.cell (by exact HG0.out)]; exact HC0.out k hlt
        by_cases hkp : k = p
        · subst hkp
          obtain rfl : l = k := by omega
          have S1 := Fl.insTo_at TB l g hlt
          have S2 := Fl.insTo_at TW l f0 hltW
          have HS1 : Hid (insTo TB l g (l + 1) = insTo TB l g l ++ [g] ++ [TB.getD l 0]) := S1
          have HS2 : Hid (insTo TW l f0 (l + 1) = insTo TW l f0 l ++ [f0] ++ [TW.getD l 0]) := S2
          have hkk : ((l : Int) == (l : Int)) = true := by simp
          generalize TB.getD l 0 = x at *
          generalize TW.getD l 0 = y at *
          generalize insTo TB l g l = L1 at *
          generalize insTo TW l f0 l = L2 at *
          clear S1 S2 hc0
          go_wp2_with (at_builtin; refine wpList_append_fits _ rfl (.tmp 158) (.tmp 160) 24 rfl wb.heap.size 28 i0 1 Try.underlying24 hi0 hz1 _ _ _ _ rfl (World.ownsRow.alloc HP.out.o1 _) ⟨wr.heap.size, 0, none⟩ 1 1 [.float .f64 g] rfl rfl (cell_one_new _ _ _) (by simp [Value.oneCell']) (by omega) ?_)
          intro x1 ho1 hg1
          have HP1 : Hid (Pair wb x1 wb.heap.size G2 (l + 1) l (TB.length + 1) (L1 ++ [g]) L2) := pair1 HP.out ho1 hg1
          clear ho1 hg1 HP
          go_wp2_with (at_builtin; refine wpList_append_fits _ rfl (.tmp 162) (.tmp 164) 24 rfl wb.heap.size 28 i0 1 Try.underlying24 hi0 hz1 _ _ _ _ rfl (World.ownsRow.alloc HP1.out.o2 _) ⟨x1.heap.size, 0, none⟩ 1 1 [.float .f64 f0] rfl rfl (cell_one_new _ _ _) (by simp [Value.oneCell']) (by omega) ?_)
          intro x2 ho1 hg1
          have HP2 : Hid (Pair wb x2 wb.heap.size G2 (l + 1) (l + 1) (TB.length + 1) (L1 ++ [g]) (L2 ++ [f0])) := pair2 HP1.out ho1 hg1
          have hc0 := HC0k.out x2 HP2.out.bel
          clear ho1 hg1 HP1
          go_wp2_with (at_builtin; refine wpList_append_fits _ rfl (.tmp 166) (.tmp 171) 24 rfl wb.heap.size 28 i0 1 Try.underlying24 hi0 hz1 _ _ _ _ rfl (World.ownsRow.alloc HP2.out.o1 _) ⟨x2.heap.size, 0, none⟩ 1 1 [.float .f64 x] rfl rfl (cell_one_new _ _ _) (by simp [Value.oneCell']) (by omega) ?_)
          intro x3 ho1 hg1
          have HP3 : Hid (Pair wb x3 wb.heap.size G2 (l + 1 + 1) (l + 1) (TB.length + 1) (L1 ++ [g] ++ [x]) (L2 ++ [f0])) := pair1 HP2.out ho1 hg1
          have hc1 := HC1k.out x3 HP3.out.bel
          clear ho1 hg1 HP2 hc0
          go_wp2_with (at_builtin; refine wpList_append_fits _ rfl (.tmp 173) (.tmp 178) 24 rfl wb.heap.size 28 i0 1 Try.underlying24 hi0 hz1 _ _ _ _ rfl (World.ownsRow.alloc HP3.out.o2 _) ⟨x3.heap.size, 0, none⟩ 1 1 [.float .f64 y] rfl rfl (cell_one_new _ _ _) (by simp [Value.oneCell']) (by omega) ?_)
          intro x4 ho1 hg1
          have HP4 : Hid (Pair wb x4 wb.heap.size G2 (l + 1 + 1) (l + 1 + 1) (TB.length + 1) (L1 ++ [g] ++ [x]) (L2 ++ [f0] ++ [y])) := pair2 HP3.out ho1 hg1
          rw [← HS1.out, ← HS2.out] at HP4
          clear ho1 hg1 HP3 hc1
          go_wp2
          go_roundw
          case rel => exact ⟨l + 1, l + 1 + 1, by omega, by go_num, .inr ⟨by omega, rfl⟩, rfl, rfl, HP4⟩
          case measure => simp [intOf]; omega
        · have HS : Hid (insTo TB p g (k + 1) = insTo TB p g k ++ [TB.getD k 0] ∧ insTo TW p f0 (k + 1) = insTo TW p f0 k ++ [TW.getD k 0]) := by
            by_cases hlo : k < p
            · exact ⟨Fl.insTo_lo TB p g k hlo hlt, Fl.insTo_lo TW p f0 k hlo hltW⟩
            · exact ⟨Fl.insTo_hi TB p g k (by omega) hlt, Fl.insTo_hi TW p f0 k (by omega) hltW⟩
          have hkk : ((k : Int) == (p : Int)) = false := by rw [beq_eq_false_iff_ne]; omega
          generalize TB.getD k 0 = x at *
          generalize TW.getD k 0 = y at *
          generalize insTo TB p g k = L1 at *
          generalize insTo TW p f0 k = L2 at *
          have hll : l + 1 ≤ TB.length + 1 := by omega
          go_wp2_with (at_builtin; refine wpList_append_fits _ rfl (.tmp 166) (.tmp 171) 24 rfl wb.heap.size 28 i0 1 Try.underlying24 hi0 hz1 _ _ _ _ rfl (World.ownsRow.alloc HP.out.o1 _) ⟨wr.heap.size, 0, none⟩ 1 1 [.float .f64 x] rfl rfl (cell_one_new _ _ _) (by simp [Value.oneCell']) (by omega) ?_)
          intro x3 ho1 hg1
          have HP3 : Hid (Pair wb x3 wb.heap.size G2 (l + 1) l (TB.length + 1) (L1 ++ [x]) L2) := pair1 HP.out ho1 hg1
          have hc1 := HC1k.out x3 HP3.out.bel
          clear ho1 hg1 HP hc0
          go_wp2_with (at_builtin; refine wpList_append_fits _ rfl (.tmp 173) (.tmp 178) 24 rfl wb.heap.size 28 i0 1 Try.underlying24 hi0 hz1 _ _ _ _ rfl (World.ownsRow.alloc HP3.out.o2 _) ⟨x3.heap.size, 0, none⟩ 1 1 [.float .f64 y] rfl rfl (cell_one_new _ _ _) (by simp [Value.oneCell']) (by omega) ?_)
          intro x4 ho1 hg1
          have HP4 : Hid (Pair wb x4 wb.heap.size G2 (l + 1) (l + 1) (TB.length + 1) (L1 ++ [x]) (L2 ++ [y])) := pair2 HP3.out ho1 hg1
          rw [← HS.out.1, ← HS.out.2] at HP4
          clear ho1 hg1 HP3 hc1
          go_wp2
          go_roundw
          case rel => exact ⟨k + 1, l + 1, by omega, by go_num, by omega, rfl, rfl, HP4⟩
          case measure => simp [intOf]; omega
      · obtain rfl : k = TB.length := by omega
        go_wp2
        go_meet
        case rel => exact ⟨l, by omega, rfl, rfl, ⟨by omega, by omega⟩, HP⟩
  case rest =>
  clear HP0
  obtain ⟨l, hl, rfl, rfl, HLL, HP⟩ := hcut
  obtain ⟨w3, hw3⟩ : ∃ x, x = wc := ⟨_, rfl⟩
  subst hw3
  obtain ⟨z3, t3⟩ : ∃ z, ((p : Int) == (TB.length : Int)) = z := ⟨_, rfl⟩
  have HZ3 : Hid (z3 = decide (p = TB.length)) := by
    rw [← t3]
    by_cases e : p = TB.length
    · rw [decide_eq_true e, e]; show _ = _; simp
    · rw [decide_eq_false e]; show _ = _; rw [beq_eq_false_iff_ne]; omega
  go_upto_if 182 with fail
  go_cut [16, 17] from 144 to 182 (fun v u wr => v = .slice (some ⟨wb.heap.size, 0, none⟩) (TB.length + 1) (TB.length + 1) ∧ u = .slice (some ⟨G2, 0, none⟩) (TB.length + 1) (TB.length + 1) ∧ Hid (Pair wb wr wb.heap.size G2 (TB.length + 1) (TB.length + 1) (TB.length + 1) (ins TB p g) (ins TW p f0)))
  case first => as_aux_lemma =>
    clear t3
    cases z3 with
    | true =>
      have hpe : p = TB.length := of_decide_eq_true HZ3.out.symm
      clear HZ3
      obtain rfl : l = TB.length := HLL.out.2 hpe
      have HS1 : Hid (insTo TB p g TB.length ++ [g] = ins TB p g) := by rw [hpe]; exact Fl.insTo_last TB g
      have HS2 : Hid (insTo TW p f0 TB.length ++ [f0] = ins TW p f0) := by rw [hpe, ← HLEN.out]; exact Fl.insTo_last TW f0
      generalize insTo TB p g TB.length = L1 at *
      generalize insTo TW p f0 TB.length = L2 at *
      clear hpe HLL hl HGG HM HF HGW
      go_wp2_with (at_builtin; refine wpList_append_fits _ rfl (.tmp 183) (.tmp 185) 24 rfl wb.heap.size 28 i0 1 Try.underlying24 hi0 hz1 _ _ _ _ rfl (World.ownsRow.alloc HP.out.o1 _) ⟨w3.heap.size, 0, none⟩ 1 1 [.float .f64 g] rfl rfl (cell_one_new _ _ _) (by simp [Value.oneCell']) (by omega) ?_)
      intro x1 ho1 hg1
      have HP1 : Hid (Pair wb x1 wb.heap.size G2 (TB.length + 1) TB.length (TB.length + 1) (L1 ++ [g]) L2) := pair1 HP.out ho1 hg1
      clear ho1 hg1 HP
      go_wp2_with (at_builtin; refine wpList_append_fits _ rfl (.tmp 187) (.tmp 189) 24 rfl wb.heap.size 28 i0 1 Try.underlying24 hi0 hz1 _ _ _ _ rfl (World.ownsRow.alloc HP1.out.o2 _) ⟨x1.heap.size, 0, none⟩ 1 1 [.float .f64 f0] rfl rfl (cell_one_new _ _ _) (by simp [Value.oneCell']) (by omega) ?_)
      intro x2 ho1 hg1
      have HP2 : Hid (Pair wb x2 wb.heap.size G2 (TB.length + 1) (TB.length + 1) (TB.length + 1) (L1 ++ [g]) (L2 ++ [f0])) := pair2 HP1.out ho1 hg1
      rw [HS1.out, HS2.out] at HP2
      clear ho1 hg1 HP1
      go_wp2
      go_meet
      case rel => exact ⟨rfl, rfl, HP2⟩
    | false =>
      have hplt : p < TB.length := by have := of_decide_eq_false HZ3.out.symm; omega
      clear HZ3
      obtain rfl : l = TB.length + 1 := HLL.out.1 hplt
      have e2 : insTo TW p f0 TB.length = ins TW p f0 := by rw [← HLEN.out]; exact Fl.insTo_end TW p f0 (by rw [HLEN.out]; exact hplt)
      rw [Fl.insTo_end TB p g hplt, e2] at HP
      clear HGG HM HF HGW HLL e2
      go_wp2
      go_meet
      case rel => exact ⟨rfl, rfl, HP⟩
  case rest =>
  clear HP HLL hl t3 HZ3
  obtain ⟨rfl, rfl, HP⟩ := hcut
  obtain ⟨w4, hw4⟩ : ∃ x, x = wc := ⟨_, rfl⟩
  subst hw4
  have HI1 : Hid ((ins TB p g).length = TB.length + 1) := Fl.ins_length TB p g hp
  have HL2 : Hid (Fl.Lists (ins TB p g) (ins TW p f0)) := Fl.gauge_lists HLIST.out hp HGG.out.1 HF.out.1
  have HQ : Hid (Reads w4.heap.size w4 (some ⟨b0, o0, none⟩) TB ∧ Reads w4.heap.size w4 (some ⟨b1, o1, none⟩) TW) := ⟨HR0.out.below HP.out.bel HP.out.bel.size, HR1.out.below HP.out.bel HP.out.bel.size⟩
  have HB4 : Hid (Below w.heap.size w w4) := HBL.out.trans (HP.out.bel.mono HBL.out.size)
  clear HC0 HC1 HR0 HR1 HBL HG0 HG1 HG hi0 hz0 hz1 hz2 hG
  go_wp2_with fail
  refine (zzclose TB TW _ _ _ _ _ _ rfl (by omega) HLIST.out HQ.out.1 HQ.out.2).mono ?_
  rintro e w5 ⟨rfl, hown, hbel⟩
  rw [clAll_length] at hown ⊢
  have HCC : Hid (∀ m, m < TB.length → w5.cell? ⟨w4.heap.size, m, none⟩ = some (.float .f64 (cl TB TW m))) := fun m hm => by
    rw [hown.cellAt m (by omega), U_get (by rw [clAll_length]; exact hm), clAll_get TB TW m hm]
  have HGL : Hid (w4.heap.size < w5.heap.size) := (hown.lt w4.heap.size rfl).2
  have HQ2 : Hid (Reads w5.heap.size w5 (some ⟨wb.heap.size, 0, none⟩) (ins TB p g) ∧ Reads w5.heap.size w5 (some ⟨G2, 0, none⟩) (ins TW p f0)) := ⟨(reads_own' HP.out.o1).2.below hbel hbel.size, (reads_own' HP.out.o2).2.below hbel hbel.size⟩
  have HB5 : Hid (Below w.heap.size w w5) := HB4.out.trans (hbel.mono HB4.out.size)
  clear hown hbel HP HQ HB4
  go_wp2_with fail
  refine (zzclose (ins TB p g) (ins TW p f0) _ _ _ _ _ _ HI1.out (by omega) HL2.out HQ2.out.1 HQ2.out.2).mono ?_
  rintro e w6 ⟨rfl, hown, hbel⟩
  rw [clAll_length, HI1.out] at hown ⊢
  have HC2 : Hid (∀ m, m < TB.length + 1 → w6.cell? ⟨w5.heap.size, m, none⟩ = some (.float .f64 (cl (ins TB p g) (ins TW p f0) m))) := fun m hm => by
    rw [hown.cellAt m (by omega), U_get (by rw [clAll_length, HI1.out]; exact hm), clAll_get _ _ m (by rw [HI1.out]; exact hm)]
  have HCD : Hid (∀ m, m < TB.length → w6.cell? ⟨w4.heap.size, m, none⟩ = some (.float .f64 (cl TB TW m))) := fun m hm => by rw [hbel.cell (by exact HGL.out)]; exact HCC.out m hm
  have HS56 : Hid (w4.heap.size < w6.heap.size ∧ w5.heap.size < w6.heap.size) := ⟨Nat.lt_of_lt_of_le HGL.out hbel.size, (hown.lt w5.heap.size rfl).2⟩
  have HB6 : Hid (Below w.heap.size w w6) := HB5.out.trans (hbel.mono HB5.out.size)
  have HSAME : Hid (∀ i j, (i < p ∧ j = i ∨ p ≤ i ∧ j = i + 1) → cl (ins TB p g) (ins TW p f0) j = cl TB TW i) := by
    have hpw : p ≤ TW.length := by rw [HLEN.out]; exact hp
    have eg : sv (foldF fmin TB) ≤ sv g := by have h1 := HGG.out.2; have h2 := HM.out.2; have h3 := HM.out.1.2; omega
    rintro i j (⟨h1, rfl⟩ | ⟨h1, rfl⟩)
    · exact Fl.gauge_same HLIST.out hp HGG.out.1 HF.out.1 HF.out.2 eg (Fl.ins_lt TB p g j hp h1) (Fl.ins_lt TW p f0 j hpw h1)
    · exact Fl.gauge_same HLIST.out hp HGG.out.1 HF.out.1 HF.out.2 eg (Fl.ins_ge TB p g i hp h1) (Fl.ins_ge TW p f0 i hpw h1)
  have HAT : Hid (sameC (cl (ins TB p g) (ins TW p f0) p) gw = true) := by
    show _ = _
    unfold sameC
    rw [HGW.out, Fl.gauge_at HLIST.out hp HGG.out.1 HF.out.1 HF.out.2 HM.out.1 HM.out.2 HGG.out.2]
    exact beq_self_eq_true _
  clear hown hbel HCC HQ2 HB5 HGL HI1 HL2 HGG HM HF HGW HLIST HLEN
  have HK2 : Hid (∀ W, Below w6.heap.size w6 W → ∀ m, m < TB.length + 1 → W.cell? ⟨w5.heap.size, m, none⟩ = some (.float .f64 (cl (ins TB p g) (ins TW p f0) m))) := fun W hW m hm => by rw [hW.cell (by exact HS56.out.2)]; exact HC2.out m hm
  have HK1 : Hid (∀ W, Below w6.heap.size w6 W → ∀ m, m < TB.length → W.cell? ⟨w4.heap.size, m, none⟩ = some (.float .f64 (cl TB TW m))) := fun W hW m hm => by rw [hW.cell (by exact HS56.out.1)]; exact HCD.out m hm
  clear HC2 HCD HS56
  go_upto_block 6 with fail
  go_cut [] from 191 to 207 (fun wr => Hid (Below w6.heap.size w6 wr))
  case first => as_aux_lemma =>
    go_wp2
    go_loopw [21] (fun t wr => ∃ k : Nat, k ≤ TB.length ∧ t = .int .i64 k ∧ Hid (Below w6.heap.size w6 wr)) (fun t _ => TB.length - (intOf t).toNat)
    case atStart => exact ⟨0, by omega, rfl, Below.refl _ _⟩
    case round =>
      obtain ⟨k, hk, rfl, HBR⟩ := hrel
      by_cases hlt : k < TB.length
      · have c1 := HK1.out wr HBR.out k hlt
        have hki : (k : Int) < (TB.length : Int) := by omega
        by_cases hkp : k < p
        · have c2 := HK2.out wr HBR.out k (by omega)
          rw [HSAME.out k k (.inl ⟨hkp, rfl⟩)] at c2
          generalize cl TB TW k = x at *
          have hs : sameC x x = true := beq_self_eq_true _
          have hkj : (k : Int) < ((TB.length + 1 : Nat) : Int) := by omega
          go_wp2
          go_quiet ((go_at_call 12; exact Calls.quiet_of_same (sameF_q _ _ _)))
          have HB9 : Hid (Below w6.heap.size w6 (wr.drewN nq)) := below_drewN HBR.out nq
          go_wp2
          go_roundw
          case rel => exact ⟨k + 1, by omega, by go_num, HB9⟩
          case measure => simp [intOf]; omega
        · have c2 := HK2.out wr HBR.out (k + 1) (by omega)
          rw [HSAME.out k (k + 1) (.inr ⟨by omega, rfl⟩)] at c2
          generalize cl TB TW k = x at *
          have hs : sameC x x = true := beq_self_eq_true _
          have hkj : (k : Int) + 1 < ((TB.length + 1 : Nat) : Int) := by omega
          go_wp2
          go_quiet ((go_at_call 12; exact Calls.quiet_of_same (sameF_q _ _ _)))
          have HB9 : Hid (Below w6.heap.size w6 (wr.drewN nq)) := below_drewN HBR.out nq
          go_wp2
          go_roundw
          case rel => exact ⟨k + 1, by omega, by go_num, HB9⟩
          case measure => simp [intOf]; omega
      · go_wp2
        go_meet
        case rel => exact HBR
  case rest =>
  obtain ⟨w7, hw7⟩ : ∃ x, x = wc := ⟨_, rfl⟩
  subst hw7
  have c2 := HK2.out w7 hcut.out p (by omega)
  have HB7 : Hid (Below w.heap.size w w7) := HB6.out.trans (hcut.out.mono HB6.out.size)
  have hpi : (p : Int) < ((TB.length + 1 : Nat) : Int) := by omega
  generalize cl (ins TB p g) (ins TW p f0) p = x at *
  clear HK1 HK2 HSAME hcut HB6
  go_wp2_with fail
  refine (sameF_any _ _ _).mono ?_
  rintro e w' ⟨rfl, rfl⟩
  go_wp2
  go_ret
  exact ⟨ret_bool HAT.out, HB7.out⟩

end Go.Proofs.Qxb6619316a
