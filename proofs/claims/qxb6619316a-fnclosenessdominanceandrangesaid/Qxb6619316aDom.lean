/-
  THE WALK of FnClosenessDominanceAndRange.
-/
import Derived.Test.Qxb6619316aDomParts
namespace Go.Proofs.Qxb6619316a
open Go.RowKit
open Fl (fmax fmin lmin gmax foldF Num sv cl)
attribute [local go_sem] run_store_float

set_option maxRecDepth 100000 in
set_option maxHeartbeats 4000000 in
theorem dom_walk (TB TW : List Nat) (a b : Option Addr) (ca cb : Nat) (i j : Int) (w : World) (hn1 : TB.length ≤ 65536) (hn2 : TW.length ≤ 65536) (bi1 : -9223372036854775808 ≤ i) (bi2 : i ≤ 9223372036854775807) (bj1 : -9223372036854775808 ≤ j) (bj2 : j ≤ 9223372036854775807) (hA : CameIn w a ca TB) (hB : CameIn w b cb TW) :
    Calls Try.prog 6 #[.slice a TB.length ca, .slice b TW.length cb, .int .i64 i, .int .i64 j] w fun e w' => e = .returned (.bool true) ∧ Below w.heap.size w w' := by
  have HA : Hid (CameIn w a ca TB) := hA
  have HB : Hid (CameIn w b cb TW) := hB
  have HBY := bytes17 a b TB.length TW.length ca cb i j w (by omega) (by omega)
  have hneq0 := fun (wx : World) => run_neq_slice_nil_any (P := Try.prog) wx 24 28 a TB.length ca 0 0 Try.underlying24
  have hneq1 := fun (wx : World) => run_neq_slice_nil_any (P := Try.prog) wx 24 28 b TW.length cb 0 0 Try.underlying24
  obtain ⟨i0, hi0, hz0, hz1, hz2⟩ := info_parts Try.info28
  clear hA hB
  go_enter Try.func6, Try.ntmps6
  go_wp2_with fail
  refine HBY.mono ?_
  clear HBY
  rintro e w' ⟨r, rfl, _, rfl⟩
  cases r with
  | false =>
    clear hneq0 hneq1
    go_wp2
    go_ret
    exact ⟨rfl, Below.refl _ _⟩
  | true =>
  go_upto_if 34 with fail
  go_cut [0] (fun v wr => Kept wr v TB ∧ Below w.heap.size w wr)
  case first => as_aux_lemma =>
    clear hneq0
    cases a with
    | none =>
      obtain ⟨hZ, hc0⟩ := HA.out.1 rfl
      have HE : Hid (TB = []) := hZ
      have hl0 : TB.length = 0 := by rw [hZ]; rfl
      have HK : Hid (Kept w (.slice none TB.length ca) TB) := ⟨none, by rw [hl0, hc0], .inl hZ⟩
      clear hZ hc0 hl0
      go_wp2
      go_meet
      case rel => exact ⟨HK.out, Below.refl _ _⟩
    | some x =>
      go_wp2_with (at_make; refine wpList_make_full _ rfl _ _ 24 rfl w.heap.size 28 i0 (.float .f64 0) 1 Try.underlying24 hi0 hz0 hz1 _ _ _ _ TB.length rfl rfl rfl rfl (by rw [hz2]; omega) (by unfold maxLen; omega) (Nat.le_refl _) ?_)
      intro w1 hown hgr
      obtain ⟨cur, hcur, hcl⟩ := full_block hown
      have HB1 : Below w.heap.size w w1 := (Below.refl _ _).grown hgr (Nat.le_refl _) (by simp)
      have HX : Hid (Reads w1.heap.size w1 (some x) TB) := HA.out.2.below HB1 HB1.size
      have HL : Hid (cur.length = TB.length) := hcl
      clear hcl hown hgr
      go_wp2_with (refine wpList_copy_splice rfl (.tmp 38) (.tmp 39) 24 24 rfl 28 Try.underlying24 Try.size28 _ _ _ _ _ _ rfl rfl w.heap.size 0 cur 28 hcur (U TB) (by simp [U]) (fun h => ⟨rfl, copy_from HX.out h⟩) (by simp [U, HL.out]) (U_one TB) w.heap.size w HB1 (Nat.le_refl _) ?_)
      intro w2 HG HB2
      rw [splice_all (by simp [U, HL.out])] at HG
      have HK : Hid (Kept w2 (.slice (some ⟨w.heap.size, 0, none⟩) TB.length TB.length) TB) := ⟨_, rfl, reads_block HG.out⟩
      clear HG HX HL hcur
      go_wp2
      go_meet
      case rel => exact ⟨HK.out, HB2⟩
  case rest =>
  obtain ⟨⟨a', rfl, hra⟩, hb1⟩ := hcut
  obtain ⟨wa, hwa⟩ : ∃ x, x = wc := ⟨_, rfl⟩
  subst hwa
  have HRA : Hid (Reads wa.heap.size wa a' TB) := hra
  have HB2 : Hid (CameIn wa b cb TW) := HB.out.below hb1
  clear hra HA HB hneq0
  go_upto_if 43 with fail
  go_cut [1] (fun v wr => Kept wr v TW ∧ Below wa.heap.size wa wr)
  case first => as_aux_lemma =>
    clear hneq1
    cases b with
    | none =>
      obtain ⟨hZ, hc0⟩ := HB2.out.1 rfl
      have HE : Hid (TW = []) := hZ
      have hl0 : TW.length = 0 := by rw [hZ]; rfl
      have HK : Hid (Kept wa (.slice none TW.length cb) TW) := ⟨none, by rw [hl0, hc0], .inl hZ⟩
      clear hZ hc0 hl0
      go_wp2
      go_meet
      case rel => exact ⟨HK.out, Below.refl _ _⟩
    | some x =>
      go_wp2_with (at_make; refine wpList_make_full _ rfl _ _ 24 rfl wa.heap.size 28 i0 (.float .f64 0) 1 Try.underlying24 hi0 hz0 hz1 _ _ _ _ TW.length rfl rfl rfl rfl (by rw [hz2]; omega) (by unfold maxLen; omega) (Nat.le_refl _) ?_)
      intro w1 hown hgr
      obtain ⟨cur, hcur, hcl⟩ := full_block hown
      have HB1 : Below wa.heap.size wa w1 := (Below.refl _ _).grown hgr (Nat.le_refl _) (by simp)
      have HX : Hid (Reads w1.heap.size w1 (some x) TW) := HB2.out.2.below HB1 HB1.size
      have HL : Hid (cur.length = TW.length) := hcl
      clear hcl hown hgr
      go_wp2_with (refine wpList_copy_splice rfl (.tmp 47) (.tmp 48) 24 24 rfl 28 Try.underlying24 Try.size28 _ _ _ _ _ _ rfl rfl wa.heap.size 0 cur 28 hcur (U TW) (by simp [U]) (fun h => ⟨rfl, copy_from HX.out h⟩) (by simp [U, HL.out]) (U_one TW) wa.heap.size wa HB1 (Nat.le_refl _) ?_)
      intro w2 HG HB2
      rw [splice_all (by simp [U, HL.out])] at HG
      have HK : Hid (Kept w2 (.slice (some ⟨wa.heap.size, 0, none⟩) TW.length TW.length) TW) := ⟨_, rfl, reads_block HG.out⟩
      clear HG HX HL hcur
      go_wp2
      go_meet
      case rel => exact ⟨HK.out, HB2⟩
  case rest =>
  obtain ⟨⟨b', rfl, hrb⟩, hb2⟩ := hcut
  obtain ⟨wb, hwb⟩ : ∃ x, x = wc := ⟨_, rfl⟩
  subst hwb
  have HRA2 : Hid (Reads wb.heap.size wb a' TB) := HRA.out.below hb2 hb2.size
  have HBL : Hid (Below w.heap.size w wb) := hb1.trans (hb2.mono hb1.size)
  have HRB : Hid (Reads wb.heap.size wb b' TW) := hrb
  clear hb1 hb2 hrb HRA HB2 hneq1
  by_cases z0 : ((TB.length : Int) == 0) = true
  · go_wp2
    go_ret
    exact ⟨rfl, HBL.out⟩
  have hne0 : ((TB.length : Int) == 0) = false := by simpa using z0
  by_cases z1 : ((TW.length : Int) != (TB.length : Int)) = true
  · clear z0
    go_wp2
    go_ret
    exact ⟨rfl, HBL.out⟩
  have HLEN : Hid (TW.length = TB.length) := by have : (TW.length : Int) = TB.length := by simpa using z1
                                                show _ = _; omega
  have h0 : 0 < TB.length := by have : ¬ (TB.length : Int) = 0 := by simpa using z0
                                omega
  rw [HLEN.out]
  clear z0 z1 hn2
  by_cases z2 : i < 0
  · go_wp2
    go_ret
    exact ⟨rfl, HBL.out⟩
  by_cases z3 : (TB.length : Int) ≤ i
  · go_wp2
    go_ret
    exact ⟨rfl, HBL.out⟩
  by_cases z4 : j < 0
  · go_wp2
    go_ret
    exact ⟨rfl, HBL.out⟩
  by_cases z5 : (TB.length : Int) ≤ j
  · go_wp2
    go_ret
    exact ⟨rfl, HBL.out⟩
  obtain ⟨i, rfl⟩ := Int.eq_ofNat_of_zero_le (show 0 ≤ i by omega)
  obtain ⟨j, rfl⟩ := Int.eq_ofNat_of_zero_le (show 0 ≤ j by omega)
  have hi : i < TB.length := by omega
  have hj : j < TB.length := by omega
  clear z2 z3 z4 z5 bi1 bi2 bj1 bj2
  obtain ⟨b0, o0, hae, hg0, hcell0⟩ := HRA2.out.resolve_left (by rintro e; rw [e] at hi; simp at hi)
  obtain ⟨b1, o1, hbe, hg1, hcell1⟩ := HRB.out.resolve_left (by rintro e; have := HLEN.out; rw [e] at this; simp at this; omega)
  subst hae hbe
  have HC0 : Hid (∀ j, j < TB.length → wb.cell? ⟨b0, o0 + j, none⟩ = some (.float .f64 (TB.getD j 0))) := hcell0
  have HC1 : Hid (∀ j, j < TB.length → wb.cell? ⟨b1, o1 + j, none⟩ = some (.float .f64 (TW.getD j 0))) := by rw [← HLEN.out]; exact hcell1
  have HR0 : Hid (Reads wb.heap.size wb (some ⟨b0, o0, none⟩) TB) := .inr ⟨b0, o0, rfl, hg0, hcell0⟩
  have HR1 : Hid (Reads wb.heap.size wb (some ⟨b1, o1, none⟩) TW) := .inr ⟨b1, o1, rfl, hg1, hcell1⟩
  have HG0 : Hid (b0 < wb.heap.size) := hg0
  have HG1 : Hid (b1 < wb.heap.size) := hg1
  clear HRA2 HRB hcell0 hcell1 hg0 hg1
  go_upto_block 0 with fail
  go_cut [] from 53 to 76 (fun wr => Hid (∀ m, m < TB.length → Fl.Good (TB.getD m 0) ∧ Fl.Good (TW.getD m 0)) ∧ wb = wr)
  case first => as_aux_lemma =>
    clear hne0
    go_wp2
    go_loop [12] (fun v => ∃ k : Nat, k ≤ TB.length ∧ v = .int .i64 k ∧ Hid (∀ m, m < k → Fl.Good (TB.getD m 0) ∧ Fl.Good (TW.getD m 0))) (fun v => TB.length - (intOf v).toNat)
    case atStart => exact ⟨0, Nat.zero_le _, rfl, fun m hm => absurd hm (Nat.not_lt_zero _)⟩
    case round =>
      obtain ⟨k, hk, rfl, HG⟩ := hrel
      by_cases hlt : k < TB.length
      · have hc0 := HC0.out k hlt
        have hc1 := HC1.out k hlt
        obtain ⟨x, hx⟩ : ∃ x, TB.getD k 0 = x := ⟨_, rfl⟩
        obtain ⟨y, hy⟩ : ∃ y, TW.getD k 0 = y := ⟨_, rfl⟩
        rw [hx] at hc0
        rw [hy] at hc1
        have HX : Hid (TB.getD k 0 = x) := hx
        have HY : Hid (TW.getD k 0 = y) := hy
        clear hx hy
        cases p1 : (FloatKind.f64.format.order x 0 == some .gt || FloatKind.f64.format.order x 0 == some .eq) with
        | false =>
          go_wp2
          go_ret
          exact ⟨rfl, HBL.out⟩
        | true =>
        cases p2 : (FloatKind.f64.format.order x 9218868437227405311 == some .lt || FloatKind.f64.format.order x 9218868437227405311 == some .eq) with
        | false =>
          go_wp2
          go_ret
          exact ⟨rfl, HBL.out⟩
        | true =>
        cases p3 : (FloatKind.f64.format.order y 0 == some .gt || FloatKind.f64.format.order y 0 == some .eq) with
        | false =>
          go_wp2
          go_ret
          exact ⟨rfl, HBL.out⟩
        | true =>
        cases p4 : (FloatKind.f64.format.order y 9218868437227405311 == some .lt || FloatKind.f64.format.order y 9218868437227405311 == some .eq) with
        | false =>
          go_wp2
          go_ret
          exact ⟨rfl, HBL.out⟩
        | true =>
        have HG2 : Hid (∀ m, m < k + 1 → Fl.Good (TB.getD m 0) ∧ Fl.Good (TW.getD m 0)) := by
          intro m hm
          by_cases e : m = k
          · subst e
            rw [HX.out, HY.out]
            exact ⟨good_of p1 p2, good_of p3 p4⟩
          · exact HG.out m (by omega)
        clear HX HY
        go_wp2
        go_round
        case rel => exact ⟨k + 1, by omega, by go_num, HG2⟩
        case measure => simp [intOf]; omega
      · obtain rfl : k = TB.length := by omega
        go_wp2
        go_meet
        case rel => exact ⟨HG, rfl⟩
  case rest =>
  obtain ⟨HG, rfl⟩ := hcut
  have HLIST : Hid (Fl.Lists TB TW) := ⟨by intro e; rw [e] at hi; simp at hi, HLEN.out, by
      intro z hz
      obtain ⟨m, hm, rfl⟩ := List.getElem_of_mem hz
      have := (HG.out m hm).1
      simpa [List.getD, hm] using this, by
      intro z hz
      obtain ⟨m, hm, rfl⟩ := List.getElem_of_mem hz
      have := (HG.out m (by rw [← HLEN.out]; exact hm)).2
      simpa [List.getD, hm] using this⟩
  have hc00 := HC0.out 0 h0
  have hc10 := HC1.out 0 h0
  obtain ⟨x0, hx0⟩ : ∃ x, TB.getD 0 0 = x := ⟨_, rfl⟩
  obtain ⟨y0, hy0⟩ : ∃ y, TW.getD 0 0 = y := ⟨_, rfl⟩
  rw [hx0, Nat.add_zero] at hc00
  rw [hy0, Nat.add_zero] at hc10
  have HX0 : Hid (foldF lmin (TB.take 1) = x0) := by show _ = _; rw [Fl.take_succ TB 0 h0, hx0]; rfl
  have HY0 : Hid (foldF gmax (TW.take 1) = y0) := by show _ = _; rw [Fl.take_succ TW 0 (by rw [HLEN.out]; exact h0), hy0]; rfl
  clear hx0 hy0
  go_upto_block 2 with fail
  go_cut [13, 14] from 110 to 115 (fun v u wr => v = .float .f64 (foldF lmin TB) ∧ u = .float .f64 (foldF gmax TW) ∧ wb = wr)
  case first => as_aux_lemma =>
    clear hne0 hc00 hc10
    go_wp2
    go_loop [13, 14, 15] (fun v u t => ∃ k : Nat, 1 ≤ k ∧ k ≤ TB.length ∧ t = .int .i64 k ∧ v = .float .f64 (foldF lmin (TB.take k)) ∧ u = .float .f64 (foldF gmax (TW.take k))) (fun _ _ t => TB.length - (intOf t).toNat)
    case atStart => exact ⟨1, by omega, by omega, rfl, by rw [HX0.out], by rw [HY0.out]⟩
    case round =>
      obtain ⟨k, hk1, hk, rfl, rfl, rfl⟩ := hrel
      clear HX0 HY0
      by_cases hlt : k < TB.length
      · have hc0 := HC0.out k hlt
        have hc1 := HC1.out k hlt
        obtain ⟨x, hx⟩ : ∃ x, TB.getD k 0 = x := ⟨_, rfl⟩
        obtain ⟨y, hy⟩ : ∃ y, TW.getD k 0 = y := ⟨_, rfl⟩
        rw [hx] at hc0
        rw [hy] at hc1
        have HS1 : Hid (foldF lmin (TB.take (k + 1)) = lmin (foldF lmin (TB.take k)) x) := by show _ = _; rw [← hx]; exact Fl.foldF_take_succ lmin TB k hk1 hlt
        have HS2 : Hid (foldF gmax (TW.take (k + 1)) = gmax (foldF gmax (TW.take k)) y) := by show _ = _; rw [← hy]; exact Fl.foldF_take_succ gmax TW k hk1 (by rw [HLEN.out]; exact hlt)
        clear hx hy
        generalize foldF lmin (TB.take k) = m at *
        generalize foldF gmax (TW.take k) = f at *
        cases p1 : (FloatKind.f64.format.order x m == some .lt) <;> cases p2 : (FloatKind.f64.format.order y f == some .gt)
        · have E1 : Hid (lmin m x = m) := by unfold lmin; rw [show (Ieee.double.order x m == some .lt) = false from p1]; rfl
          have E2 : Hid (gmax f y = f) := by unfold gmax; rw [show (Ieee.double.order y f == some .gt) = false from p2]; rfl
          go_wp2
          go_round
          case rel => exact ⟨k + 1, by omega, by omega, by go_num, by rw [HS1.out, E1.out], by rw [HS2.out, E2.out]⟩
          case measure => simp [intOf]; omega
        · have E1 : Hid (lmin m x = m) := by unfold lmin; rw [show (Ieee.double.order x m == some .lt) = false from p1]; rfl
          have E2 : Hid (gmax f y = y) := by unfold gmax; rw [show (Ieee.double.order y f == some .gt) = true from p2]; rfl
          go_wp2
          go_round
          case rel => exact ⟨k + 1, by omega, by omega, by go_num, by rw [HS1.out, E1.out], by rw [HS2.out, E2.out]⟩
          case measure => simp [intOf]; omega
        · have E1 : Hid (lmin m x = x) := by unfold lmin; rw [show (Ieee.double.order x m == some .lt) = true from p1]; rfl
          have E2 : Hid (gmax f y = f) := by unfold gmax; rw [show (Ieee.double.order y f == some .gt) = false from p2]; rfl
          go_wp2
          go_round
          case rel => exact ⟨k + 1, by omega, by omega, by go_num, by rw [HS1.out, E1.out], by rw [HS2.out, E2.out]⟩
          case measure => simp [intOf]; omega
        · have E1 : Hid (lmin m x = x) := by unfold lmin; rw [show (Ieee.double.order x m == some .lt) = true from p1]; rfl
          have E2 : Hid (gmax f y = y) := by unfold gmax; rw [show (Ieee.double.order y f == some .gt) = true from p2]; rfl
          go_wp2
          go_round
          case rel => exact ⟨k + 1, by omega, by omega, by go_num, by rw [HS1.out, E1.out], by rw [HS2.out, E2.out]⟩
          case measure => simp [intOf]; omega
      · obtain rfl : k = TB.length := by omega
        have e2 : TW.take TB.length = TW := by rw [← HLEN.out]; exact List.take_of_length_le (Nat.le_refl _)
        rw [List.take_of_length_le (Nat.le_refl _), e2]
        clear e2
        go_wp2
        go_meet
        case rel => exact ⟨rfl, rfl, rfl⟩
  case rest =>
  obtain ⟨rfl, rfl, rfl⟩ := hcut
  clear hc00 hc10 HX0 HY0 hne0
  have HTBN : Hid (∀ z ∈ TB, Num z) := fun z hz => (HLIST.out.tb z hz).num
  have HTWN : Hid (∀ z ∈ TW, Num z) := fun z hz => (HLIST.out.tw z hz).num
  obtain ⟨m0, hm0⟩ : ∃ x, foldF lmin TB = x := ⟨_, rfl⟩
  obtain ⟨f0, hf0⟩ : ∃ x, foldF gmax TW = x := ⟨_, rfl⟩
  have HM : Hid (Num m0 ∧ sv m0 = sv (foldF fmin TB)) := by rw [← hm0]; exact ⟨(Fl.near_pick HLIST.out.ne HTBN.out).2.1, Fl.near_min HLIST.out.ne HTBN.out⟩
  have HF : Hid (Num f0 ∧ sv f0 = sv (foldF fmax TW)) := by rw [← hf0]; exact ⟨(Fl.far_pick HLIST.out.ne2 HTWN.out).2.1, Fl.far_max HLIST.out.ne2 HTWN.out⟩
  rw [hm0, hf0]
  clear hm0 hf0
  go_wp2_with fail
  refine (zzclose TB TW _ _ _ _ _ _ rfl (by omega) HLIST.out HR0.out HR1.out).mono ?_
  rintro e w2 ⟨rfl, hown, hbel⟩
  rw [clAll_length] at hown ⊢
  have HCC : Hid (∀ m, m < TB.length → w2.cell? ⟨wb.heap.size, m, none⟩ = some (.float .f64 (cl TB TW m))) := fun m hm => by
    rw [hown.cellAt m (by omega), U_get (by rw [clAll_length]; exact hm), clAll_get TB TW m hm]
  have HD0 : Hid (∀ j, j < TB.length → w2.cell? ⟨b0, o0 + j, none⟩ = some (.float .f64 (TB.getD j 0))) := fun m hm => by rw [hbel.cell (by exact HG0.out)]; exact HC0.out m hm
  have HD1 : Hid (∀ j, j < TB.length → w2.cell? ⟨b1, o1 + j, none⟩ = some (.float .f64 (TW.getD j 0))) := fun m hm => by rw [hbel.cell (by exact HG1.out)]; exact HC1.out m hm
  have HBE : Hid (Below w.heap.size w w2) := HBL.out.trans (hbel.mono HBL.out.size)
  clear hown hbel HC0 HC1 HR0 HR1 HBL HG0 HG1 HG hi0 hz0 hz1 hz2
  go_upto_block 4 with fail
  go_cut [] from 141 to 147 (fun wr => w2 = wr)
  case first => as_aux_lemma =>
    go_wp2
    go_loop [17] (fun t => ∃ k : Nat, k ≤ TB.length ∧ t = .int .i64 k) (fun t => TB.length - (intOf t).toNat)
    case atStart => exact ⟨0, by omega, rfl⟩
    case round =>
      obtain ⟨k, hk, rfl⟩ := hrel
      by_cases hlt : k < TB.length
      · have hltW : k < TW.length := by rw [HLEN.out]; exact hlt
        have hc0 := HD0.out k hlt
        have hc1 := HD1.out k hlt
        have hcc := HCC.out k hlt
        obtain ⟨x, hx⟩ : ∃ x, TB.getD k 0 = x := ⟨_, rfl⟩
        obtain ⟨y, hy⟩ : ∃ y, TW.getD k 0 = y := ⟨_, rfl⟩
        obtain ⟨c, hcq⟩ : ∃ c, cl TB TW k = c := ⟨_, rfl⟩
        rw [hx] at hc0
        rw [hy] at hc1
        rw [hcq] at hcc
        have nx : Num x := by rw [← hx]; exact HTBN.out _ (Fl.mem_getD hlt)
        have ny : Num y := by rw [← hy]; exact HTWN.out _ (Fl.mem_getD hltW)
        have nm := HM.out.1
        have nf := HF.out.1
        have q1 := eq_b nf Fl.num_zero
        rw [Fl.sv_zero] at q1
        by_cases hf : sv f0 = 0
        · rw [decide_eq_true hf] at q1
          have hc : c = 0 := by rw [← hcq]; exact Fl.cl_zero (by rw [← HF.out.2]; exact hf) k
          have q2 : (FloatKind.f64.format.order c 0 != some .eq) = false := by rw [hc, ne_b Fl.num_zero Fl.num_zero]; simp
          clear hc hx hy hcq nx ny nm nf hf hltW hc0 hc1
          go_wp2
          go_round
          case rel => exact ⟨k + 1, by omega, by go_num⟩
          case measure => simp [intOf]; omega
        · rw [decide_eq_false hf] at q1
          have hf2 : sv (foldF fmax TW) ≠ 0 := by rw [← HF.out.2]; exact hf
          have q3 := gt_b nm Fl.num_zero
          rw [Fl.sv_zero] at q3
          have q4 := eq_b nx nm
          have q5 := eq_b ny nf
          by_cases hm : 0 < sv m0
          · rw [decide_eq_true hm] at q3
            obtain ⟨nc, c1, c2⟩ := Fl.cl_neg HLIST.out hf2 (by rw [← HM.out.2]; exact hm) hlt
            rw [hcq] at nc c1 c2
            rw [hx, hy, ← HM.out.2, ← HF.out.2] at c2
            have q6 : (FloatKind.f64.format.order c 0 == some .lt || FloatKind.f64.format.order c 0 == some .eq) = true := by rw [le_b nc Fl.num_zero, Fl.sv_zero]; simp; exact c1
            by_cases e1 : sv x = sv m0
            · rw [decide_eq_true e1] at q4
              by_cases e2 : sv y = sv f0
              · rw [decide_eq_true e2] at q5
                have q7 : (FloatKind.f64.format.order c 0 != some .eq) = false := by rw [ne_b nc Fl.num_zero, Fl.sv_zero, c2 e1 e2]; simp
                clear hx hy hcq nx ny nm nf hf hltW hf2 hm nc c1 c2 e1 e2
                go_wp2
                go_round
                case rel => exact ⟨k + 1, by omega, by go_num⟩
                case measure => simp [intOf]; omega
              · rw [decide_eq_false e2] at q5
                clear hx hy hcq nx ny nm nf hf hltW hf2 hm nc c1 c2 e1 e2
                go_wp2
                go_round
                case rel => exact ⟨k + 1, by omega, by go_num⟩
                case measure => simp [intOf]; omega
            · rw [decide_eq_false e1] at q4
              clear hx hy hcq nx ny nm nf hf hltW hf2 hm nc c1 c2 e1 q5
              go_wp2
              go_round
              case rel => exact ⟨k + 1, by omega, by go_num⟩
              case measure => simp [intOf]; omega
          · rw [decide_eq_false hm] at q3
            obtain ⟨nc, c1, c2, c3⟩ := Fl.cl_pos HLIST.out hf2 (by rw [← HM.out.2]; exact hm) hlt
            rw [hcq] at nc c1 c2 c3
            rw [hy, ← HF.out.2] at c3
            have n1 : Num 4607182418800017408 := by unfold Num; rw [Fl.rg_of (by omega)]; omega
            have q6 : (FloatKind.f64.format.order c 0 == some .gt || FloatKind.f64.format.order c 0 == some .eq) = true := by rw [ge_b nc Fl.num_zero, Fl.sv_zero]; simp; exact c1
            have q8 : (FloatKind.f64.format.order c 4607182418800017408 == some .lt || FloatKind.f64.format.order c 4607182418800017408 == some .eq) = true := by rw [le_b nc n1, Fl.sv_one]; simp; exact c2
            by_cases e1 : sv x = sv m0
            · rw [decide_eq_true e1] at q4
              by_cases e2 : sv y = sv f0
              · rw [decide_eq_true e2] at q5
                have q7 : (FloatKind.f64.format.order c 4607182418800017408 != some .eq) = false := by rw [ne_b nc n1, Fl.sv_one, c3 e2]; simp
                clear hx hy hcq nx ny nm nf hf hltW hf2 hm nc c1 c2 c3 e1 e2 n1
                go_wp2
                go_round
                case rel => exact ⟨k + 1, by omega, by go_num⟩
                case measure => simp [intOf]; omega
              · rw [decide_eq_false e2] at q5
                clear hx hy hcq nx ny nm nf hf hltW hf2 hm nc c1 c2 c3 e1 e2 n1
                go_wp2
                go_round
                case rel => exact ⟨k + 1, by omega, by go_num⟩
                case measure => simp [intOf]; omega
            · rw [decide_eq_false e1] at q4
              clear hx hy hcq nx ny nm nf hf hltW hf2 hm nc c1 c2 c3 e1 q5 n1
              go_wp2
              go_round
              case rel => exact ⟨k + 1, by omega, by go_num⟩
              case measure => simp [intOf]; omega
      · go_wp2
        go_meet
        case rel => rfl
  case rest =>
  obtain rfl := hcut
  have hi2 : i < TW.length := by rw [HLEN.out]; exact hi
  have hj2 : j < TW.length := by rw [HLEN.out]; exact hj
  have ca1 := HD0.out i hi
  have ca2 := HD0.out j hj
  have cb1 := HD1.out i hi
  have cb2 := HD1.out j hj
  have cc1 := HCC.out i hi
  have cc2 := HCC.out j hj
  have n1 : Num (TB.getD i 0) := HTBN.out _ (Fl.mem_getD hi)
  have n2 : Num (TB.getD j 0) := HTBN.out _ (Fl.mem_getD hj)
  have n3 : Num (TW.getD i 0) := HTWN.out _ (Fl.mem_getD hi2)
  have n4 : Num (TW.getD j 0) := HTWN.out _ (Fl.mem_getD hj2)
  have q1 := le_b n1 n2
  have q2 := ge_b n3 n4
  have hdom := Fl.cl_dom (i := i) (j := j) HLIST.out hi hj
  generalize TB.getD i 0 = xi at *
  generalize TB.getD j 0 = xj at *
  generalize TW.getD i 0 = yi at *
  generalize TW.getD j 0 = yj at *
  generalize cl TB TW i = ci at *
  generalize cl TB TW j = cj at *
  have hii : (i : Int) < (TB.length : Int) := by omega
  have hjj : (j : Int) < (TB.length : Int) := by omega
  clear n1 n2 n3 n4 hi2 hj2 HD0 HD1 HCC HTBN HTWN HM HF HLIST HLEN
  by_cases g1 : sv xi ≤ sv xj
  · rw [decide_eq_true g1] at q1
    by_cases g2 : sv yj ≤ sv yi
    · rw [decide_eq_true g2] at q2
      obtain ⟨m1, m2, m3⟩ := hdom g1 g2
      have q3 : (FloatKind.f64.format.order ci cj == some .gt || FloatKind.f64.format.order ci cj == some .eq) = true := by rw [ge_b m1 m2]; simp; exact m3
      clear hdom g1 g2 m1 m2 m3
      go_wp2
      go_quiet (fail)
      go_wp2
      go_ret
      exact ⟨rfl, below_drewN HBE.out _⟩
    · rw [decide_eq_false g2] at q2
      clear hdom g1 g2
      go_wp2
      go_quiet (fail)
      go_wp2
      go_ret
      exact ⟨rfl, below_drewN HBE.out _⟩
  · rw [decide_eq_false g1] at q1
    clear hdom g1 q2
    go_wp2
    go_quiet (fail)
    go_wp2
    go_ret
    exact ⟨rfl, below_drewN HBE.out _⟩
end Go.Proofs.Qxb6619316a
