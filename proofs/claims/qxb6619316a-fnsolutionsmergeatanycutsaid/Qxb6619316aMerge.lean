/-
  THE WALK of FnSolutionsMergeAtAnyCut.
-/
import Derived.Test.Qxb6619316aMergeParts
namespace Go.Proofs.Qxb6619316a
open Go.RowKit
open Fl (fmax fmin Num sv C omax omin mrgTo mrg accTo sol colTo nanTo)
attribute [local go_sem] run_store_float

set_option maxRecDepth 100000 in
set_option maxHeartbeats 4000000 in
theorem merge_walk (Z : List (List Nat)) (a : Option Addr) (N cap : Nat) (A : Nat → Option Addr) (cp : Nat → Nat) (m : Int) (w : World) (hN : Z.length = N) (hl : N ≤ 9223372036854775807) (hNc : N ≤ cap) (bm1 : -9223372036854775808 ≤ m) (bm2 : m ≤ 9223372036854775807) (hrl : ∀ i, i < N → (Z.getD i []).length ≤ 9223372036854775807) (hG : CameRows w a N A cp Z) :
    Calls Try.prog 3 #[.slice a N cap, .int .i64 m] w fun e w' => e = .returned (.bool true) ∧ Below w.heap.size w w' := by
  have HBY := bytes7 Z a N cap m A cp w hN hl hrl hG
  have HG : Hid (CameRows w a N A cp Z) := hG
  have HN : Hid (Z.length = N) := hN
  have HRL : Hid (∀ i, i < N → (Z.getD i []).length ≤ 9223372036854775807) := hrl
  clear hG hN hrl
  go_enter Try.func3, Try.ntmps3
  go_wp2_with fail
  refine HBY.mono ?_
  clear HBY
  rintro e w' ⟨r, rfl, rfl⟩
  cases r with
  | false =>
    go_wp2
    go_ret
    exact ⟨rfl, Below.refl _ _⟩
  | true =>
  by_cases h1 : N ≤ 65536
  rotate_left
  · go_wp2
    go_ret
    exact ⟨rfl, Below.refl _ _⟩
  by_cases h0 : N = 0
  · subst h0
    have hz : ((0 : Int) == 0) = true := rfl
    go_wp2
    refine wp_loop_rounds 1 ?_
    rw [rounds_succ]
    go_wp2
    go_ret
    exact ⟨rfl, Below.refl _ _⟩
  have hN0 : ((N : Int) == 0) = false := by rw [beq_eq_false_iff_ne]; omega
  have hNn : 0 < N := by omega
  obtain ⟨b, off, rfl, hgr⟩ := HG.out.resolve_left (by rintro e; have := HN.out; rw [e] at this; simp at this; omega)
  have HGR : Hid (Grid w.heap.size w b off N A cp Z) := hgr
  clear hgr HG h0
  go_upto_block 0 with fail
  go_cut [] (fun wr => Hid (∀ i, i < N → (Z.getD i []).length ≤ 131072) ∧ w = wr)
  case first => as_aux_lemma =>
    clear hN0
    go_wp2
    go_loop [5, 31] (fun z t => ∃ k n : Nat, k ≤ N ∧ t = .int .i64 k ∧ z = .int .i64 n ∧ n ≤ 1048576 ∧ Hid (∀ i, i < k → (Z.getD i []).length ≤ 131072)) (fun _ t => N - (intOf t).toNat)
    case atStart => exact ⟨0, 0, Nat.zero_le _, rfl, rfl, by omega, fun i hi => absurd hi (Nat.not_lt_zero _)⟩
    case round =>
      obtain ⟨k, n, hk, rfl, rfl, hn, HP⟩ := hrel
      by_cases hlt : k < N
      · have hc := HGR.out.cell k hlt
        have hr := HRL.out k hlt
        obtain ⟨L, hL⟩ : ∃ L, (Z.getD k []).length = L := ⟨_, rfl⟩
        have HL : Hid ((Z.getD k []).length = L) := hL
        rw [hL] at hc hr
        generalize A k = ar at *
        generalize cp k = cr at *
        clear hL
        by_cases h4 : L ≤ 131072
        · by_cases h5 : n + (24 + 8 * L) ≤ 1048576
          · have HP2 : Hid (∀ i, i < k + 1 → (Z.getD i []).length ≤ 131072) := by
              intro i hi
              by_cases e : i = k
              · rw [e, HL.out]; exact h4
              · exact HP.out i (by omega)
            go_wp2
            go_round
            case rel => exact ⟨k + 1, n + (24 + 8 * L), by omega, by go_num, by go_num, by omega, HP2⟩
            case measure => simp [intOf]; omega
          · go_wp2
            go_ret
            exact ⟨rfl, Below.refl _ _⟩
        · go_wp2
          go_ret
          exact ⟨rfl, Below.refl _ _⟩
      · obtain rfl : k = N := by omega
        go_wp2
        go_meet
        case rel => exact ⟨HP, rfl⟩
  case rest =>
  obtain ⟨HP, rfl⟩ := hcut
  have hc0 := HGR.out.cell 0 hNn
  rw [Nat.add_zero] at hc0
  obtain ⟨n0, hn0⟩ : ∃ L, (Z.getD 0 []).length = L := ⟨_, rfl⟩
  have hl0 : n0 ≤ 131072 := by rw [← hn0]; exact HP.out 0 hNn
  rw [hn0] at hc0
  have HL0 : Hid ((Z.getD 0 []).length = n0) := hn0
  generalize A 0 = A0 at hc0
  generalize cp 0 = cp0 at hc0
  clear hn0
  go_upto_block 2 with fail
  go_cut [] (fun wr => Hid (∀ i, i < N → (Z.getD i []).length ≤ n0) ∧ Below w.heap.size w wr)
  case first => as_aux_lemma =>
    clear hN0
    go_wp2
    go_loopw [8] (fun t wr => ∃ k : Nat, 1 ≤ k ∧ k ≤ N ∧ t = .int .i64 k ∧ Hid (∀ i, i < k → (Z.getD i []).length ≤ n0) ∧ Below w.heap.size w wr) (fun t _ => N - (intOf t).toNat)
    case atStart => exact ⟨1, by omega, by omega, rfl, fun i hi => by rw [show i = 0 from by omega, HL0.out]; exact Nat.le_refl _, Below.refl _ _⟩
    case round =>
      obtain ⟨k, hk1, hk, rfl, HQ, hbel⟩ := hrel
      by_cases hlt : k < N
      · have hc : wr.cell? ⟨b, off + k, none⟩ = some (.slice (A k) (Z.getD k []).length (cp k)) := by rw [hbel.cell (by exact HGR.out.lt)]; exact HGR.out.cell k hlt
        have hc0r : wr.cell? ⟨b, off, none⟩ = some (.slice A0 n0 cp0) := by rw [hbel.cell (by exact HGR.out.lt)]; exact hc0
        have hr := HRL.out k hlt
        obtain ⟨L, hL⟩ : ∃ L, (Z.getD k []).length = L := ⟨_, rfl⟩
        have HL : Hid ((Z.getD k []).length = L) := hL
        rw [hL] at hc hr
        generalize A k = ar at *
        generalize cp k = cr at *
        have hki : (k : Int) < (N : Int) := by omega
        have h0i : (0 : Int) < (N : Int) := by omega
        clear hL hc0
        by_cases h4 : L ≤ n0
        · have HQ2 : Hid (∀ i, i < k + 1 → (Z.getD i []).length ≤ n0) := by
            intro i hi
            by_cases e : i = k
            · rw [e, HL.out]; exact h4
            · exact HQ.out i (by omega)
          go_wp2
          go_quiet (fail)
          have HB9 : Hid (Below w.heap.size w (wr.drewN nq)) := below_drewN hbel nq
          clear hc hc0r hbel
          go_wp2
          go_roundw
          case rel => exact ⟨k + 1, by omega, by omega, by go_num, HQ2, HB9.out⟩
          case measure => simp [intOf]; omega
        · go_wp2
          go_quiet (fail)
          have HB9 : Hid (Below w.heap.size w (wr.drewN nq)) := below_drewN hbel nq
          clear hc hc0r hbel
          go_wp2
          go_ret
          exact ⟨rfl, HB9.out⟩
      · obtain rfl : k = N := by omega
        go_wp2
        go_meet
        case rel => exact ⟨HQ, hbel⟩
  case rest =>
  clear hc0 hN0
  obtain ⟨HQ, hb1⟩ := hcut
  obtain ⟨w1, hw1⟩ : ∃ x, x = wc := ⟨_, rfl⟩
  subst hw1
  have HB1 : Hid (Below w.heap.size w w1) := hb1
  clear hb1
  by_cases z2 : m < 0
  · go_wp2
    go_ret
    exact ⟨rfl, HB1.out⟩
  by_cases z3 : (N : Int) ≤ m
  · go_wp2
    go_ret
    exact ⟨rfl, HB1.out⟩
  obtain ⟨m, rfl⟩ := Int.eq_ofNat_of_zero_le (show 0 ≤ m by omega)
  have hm : m < N := by omega
  clear z2 z3 bm1 bm2
  obtain ⟨nm, hnm⟩ : ∃ L, (Z.getD m []).length = L := ⟨_, rfl⟩
  have hlm : nm ≤ n0 := by rw [← hnm]; exact HQ.out m hm
  have HLM : Hid ((Z.getD m []).length = nm) := hnm
  obtain ⟨Am, hAm⟩ : ∃ x, A m = x := ⟨_, rfl⟩
  obtain ⟨cm, hcm⟩ : ∃ x, cp m = x := ⟨_, rfl⟩
  have HCM : Hid (∀ W, Below w.heap.size w W → W.cell? ⟨b, off + m, none⟩ = some (.slice Am nm cm)) := fun W hW => by rw [hW.cell (by exact HGR.out.lt), HGR.out.cell m hm, hnm, hAm, hcm]
  have HRM : Hid (Reads w.heap.size w Am (Z.getD m []) ∧ (Am = none → Z.getD m [] = [])) := by rw [← hAm]; exact ⟨HGR.out.row m hm, HGR.out.nil m hm⟩
  clear hnm hAm hcm
  go_upto_block 4 with fail
  go_cut [] (fun wr => Hid (∀ i, m < i → i < N → (Z.getD i []).length ≤ nm) ∧ Below w.heap.size w wr)
  case first => as_aux_lemma =>
    go_wp2
    go_loopw [9] (fun t wr => ∃ k : Nat, m + 1 ≤ k ∧ k ≤ N ∧ t = .int .i64 k ∧ Hid (∀ i, m < i → i < k → (Z.getD i []).length ≤ nm) ∧ Below w.heap.size w wr) (fun t _ => N - (intOf t).toNat)
    case atStart => exact ⟨m + 1, by omega, by omega, by go_num, fun i h1 h2 => by omega, HB1.out⟩
    case round =>
      obtain ⟨k, hk1, hk, rfl, HS, hbel⟩ := hrel
      by_cases hlt : k < N
      · have hc : wr.cell? ⟨b, off + k, none⟩ = some (.slice (A k) (Z.getD k []).length (cp k)) := by rw [hbel.cell (by exact HGR.out.lt)]; exact HGR.out.cell k hlt
        have hcm := HCM.out wr hbel
        have hr := HRL.out k hlt
        obtain ⟨L, hL⟩ : ∃ L, (Z.getD k []).length = L := ⟨_, rfl⟩
        have HL : Hid ((Z.getD k []).length = L) := hL
        rw [hL] at hc hr
        generalize A k = ar at *
        generalize cp k = cr at *
        have hki : (k : Int) < (N : Int) := by omega
        have hmi : (m : Int) < (N : Int) := by omega
        clear hL
        by_cases h4 : L ≤ nm
        · have HS2 : Hid (∀ i, m < i → i < k + 1 → (Z.getD i []).length ≤ nm) := by
            intro i h1 hi
            by_cases e : i = k
            · rw [e, HL.out]; exact h4
            · exact HS.out i h1 (by omega)
          go_wp2
          go_quiet (fail)
          have HB9 : Hid (Below w.heap.size w (wr.drewN nq)) := below_drewN hbel nq
          clear hc hcm hbel
          go_wp2
          go_roundw
          case rel => exact ⟨k + 1, by omega, by omega, by go_num, HS2, HB9.out⟩
          case measure => simp [intOf]; omega
        · go_wp2
          go_quiet (fail)
          have HB9 : Hid (Below w.heap.size w (wr.drewN nq)) := below_drewN hbel nq
          clear hc hcm hbel
          go_wp2
          go_ret
          exact ⟨rfl, HB9.out⟩
      · obtain rfl : k = N := by omega
        go_wp2
        go_meet
        case rel => exact ⟨HS, hbel⟩
  case rest =>
  clear HB1
  obtain ⟨HS, hb1⟩ := hcut
  obtain ⟨w2, hw2⟩ : ∃ x, x = wc := ⟨_, rfl⟩
  subst hw2
  have hcm := HCM.out w2 hb1
  have hmi : (m : Int) < (N : Int) := by omega
  have HB2 : Hid (Below w.heap.size w w2) := hb1
  have HRM2 : Hid (Reads w2.heap.size w2 Am (Z.getD m [])) := HRM.out.1.below hb1 hb1.size
  clear hb1
  obtain ⟨row, hrow⟩ : ∃ x, Z.getD m [] = x := ⟨_, rfl⟩
  have hlr : row.length = nm := by rw [← hrow]; exact HLM.out
  have hGo : Grid (w2.alloc (.cells #[.slice Am nm cm] 24)).heap.size (w2.alloc (.cells #[.slice Am nm cm] 24)) w2.heap.size 0 1 (fun _ => Am) (fun _ => cm) [row] := by
    refine grid_one ?_ (by rw [← hrow]; exact HRM2.out) (by rw [← hrow]; exact HRM.out.2)
    rw [hlr]
    exact cell_one_new w2 (.slice Am nm cm) 24 0 _ rfl
  have HGO : Hid _ := hGo
  have HLR : Hid (row.length = nm) := hlr
  have HRMR : Hid (Reads w2.heap.size w2 Am row) := by rw [← hrow]; exact HRM2.out
  clear hGo hlr hrow HRM HRM2
  go_wp2_with fail
  refine (zzsol [row] w2.heap.size 0 1 1 nm (fun _ => Am) (fun _ => cm) _ rfl (by omega) (by omega) HLR.out (by omega) (fun i hi => by obtain rfl : i = 0 := (by omega); exact Nat.le_of_eq HLR.out) (by omega) HGO.out).mono ?_
  rintro e w3 ⟨vb, vw, Bs, Ws, rfl, hb, hw, ⟨ab, cb, rfl, rb, nb⟩, ⟨aw, cw, rfl, rw', nw⟩, hbel⟩
  have hb23 : Below w2.heap.size w2 w3 := ((Below.refl _ _).alloc (Nat.le_refl _) _).trans (hbel.mono (by simp))
  have HM1 : Hid (Bs.map C = row.map C) := one_words hb
  have HM2 : Hid (Ws.map C = row.map C) := one_words hw
  have HL1 : Hid (Bs.length = nm) := by show _ = _; have := congrArg List.length HM1.out; simp only [List.length_map] at this; rw [this]; exact HLR.out
  have HL2 : Hid (Ws.length = nm) := by show _ = _; have := congrArg List.length HM2.out; simp only [List.length_map] at this; rw [this]; exact HLR.out
  have H1 : Hid (Reads w3.heap.size w3 ab Bs) := rb
  have H2 : Hid (Reads w3.heap.size w3 aw Ws) := rw'
  have H3 : Hid (Reads w3.heap.size w3 Am row) := HRMR.out.below hb23 hb23.size
  have HB3 : Hid (Below w.heap.size w w3) := HB2.out.trans (hb23.mono HB2.out.size)
  rw [HL1.out, HL2.out]
  clear hb hw rb nb rw' nw hbel hb23 HGO HRMR HB2 hcm
  go_wp2_with fail
  refine (sameS_any Bs row _ _ _ _ _ _ _ _ HL1.out HLR.out (by omega) HM1.out H1.out H3.out).mono ?_
  rintro e w' ⟨rfl, q1, rfl⟩
  have H2' : Hid (Reads w3.heap.size (w3.drewN q1) aw Ws) := H2
  have H3' : Hid (Reads w3.heap.size (w3.drewN q1) Am row) := H3
  go_wp2_with fail
  refine (sameS_any Ws row _ _ w3.heap.size _ _ _ _ _ HL2.out HLR.out (by omega) HM2.out H2'.out H3'.out).mono ?_
  rintro e w' ⟨rfl, q2, rfl⟩
  obtain ⟨w4, hw4⟩ : ∃ x, x = w3.drewN (q1 + q2) := ⟨_, rfl⟩
  have HB4 : Hid (Below w.heap.size w w4) := by rw [hw4]; exact below_drewN HB3.out (q1 + q2)
  rw [drewN_add, ← hw4]
  clear hw4 HB3 H1 H2 H3 H2' H3' HM1 HM2 HL1 HL2
  by_cases hm0 : m = 0
  · have hz : ((m : Int) == 0) = true := by rw [hm0]; rfl
    go_wp2
    go_ret
    exact ⟨rfl, HB4.out⟩
  have hz : ((m : Int) == 0) = false := by rw [beq_eq_false_iff_ne]; omega
  have hm1 : 0 < m := by omega
  have HG4 : Hid (Grid w4.heap.size w4 b off N A cp Z) := HGR.out.below HB4.out HB4.out.size
  clear hm0
  go_wp2_with fail
  refine (zzsol Z b off N cap n0 A cp _ HN.out hNn (by omega) HL0.out (by omega) HQ.out hNc HG4.out).mono ?_
  rintro e w5 ⟨vb, vw, Bw, Ww, rfl, hb, hw, ⟨ab1, cb1, rfl, rb, nb⟩, ⟨aw1, cw1, rfl, rw', nw⟩, hbel⟩
  have HBZ : Hid (Bw.map C = sol omax (Z.map (·.map C))) := hb
  have HWZ : Hid (Ww.map C = sol omin (Z.map (·.map C))) := hw
  have HLB : Hid (Bw.length = n0) := (len_of hb).trans HL0.out
  have HLW : Hid (Ww.length = n0) := (len_of hw).trans HL0.out
  have HRB : Hid (Reads w5.heap.size w5 ab1 Bw) := rb
  have HRW : Hid (Reads w5.heap.size w5 aw1 Ww) := rw'
  have HB5 : Hid (Below w.heap.size w w5) := HB4.out.trans (hbel.mono HB4.out.size)
  have HG5 : Hid (Grid w5.heap.size w5 b off m A cp (Z.take m)) := (HG4.out.below hbel hbel.size).take m (by omega)
  rw [HLB.out, HLW.out]
  clear hb hw rb nb rw' nw hbel HG4 HB4 hz
  have hmc : m ≤ cap := by omega
  have HT1 : Hid ((Z.take m).length = m) := by show _ = _; rw [List.length_take, HN.out]; omega
  have HT2 : Hid (((Z.take m).getD 0 []).length = n0) := by show _ = _; rw [getD_take Z m 0 hm1]; exact HL0.out
  have HT3 : Hid (∀ i, i < m → ((Z.take m).getD i []).length ≤ n0) := fun i hi => by rw [getD_take Z m i hi]; exact HQ.out i (by omega)
  go_wp2_with fail
  refine (zzsol (Z.take m) b off m cap n0 A cp _ HT1.out (by omega) (by omega) HT2.out (by omega) HT3.out hmc HG5.out).mono ?_
  rintro e w6 ⟨vb, vw, Bx, Wx, rfl, hb, hw, ⟨ab2, cb2, rfl, rb, nb⟩, ⟨aw2, cw2, rfl, rw', nw⟩, hbel⟩
  have HBX : Hid (Bx.map C = sol omax ((Z.take m).map (·.map C))) := hb
  have HWX : Hid (Wx.map C = sol omin ((Z.take m).map (·.map C))) := hw
  have HLBX : Hid (Bx.length = n0) := (len_of hb).trans HT2.out
  have HLWX : Hid (Wx.length = n0) := (len_of hw).trans HT2.out
  have HRB2 : Hid (Reads w6.heap.size w6 ab1 Bw ∧ Reads w6.heap.size w6 aw1 Ww ∧ Reads w6.heap.size w6 ab2 Bx ∧ Reads w6.heap.size w6 aw2 Wx) := ⟨HRB.out.below hbel hbel.size, HRW.out.below hbel hbel.size, rb, rw'⟩
  have HB6 : Hid (Below w.heap.size w w6) := HB5.out.trans (hbel.mono HB5.out.size)
  have HG6 : Hid (Grid w6.heap.size w6 b (off + m) (N - m) (fun i => A (m + i)) (fun i => cp (m + i)) (Z.drop m)) := (HGR.out.below HB6.out HB6.out.size).drop m (by omega)
  rw [HLBX.out, HLWX.out]
  clear hb hw rb nb rw' nw hbel HG5 HB5 HRB HRW HT1 HT2 HT3
  have HT1 : Hid ((Z.drop m).length = N - m) := by show _ = _; rw [List.length_drop, HN.out]
  have HT2 : Hid (((Z.drop m).getD 0 []).length = nm) := by show _ = _; rw [getD_drop, Nat.add_zero]; exact HLM.out
  have HT3 : Hid (∀ i, i < N - m → ((Z.drop m).getD i []).length ≤ nm) := fun i hi => by
    rw [getD_drop]
    by_cases e : i = 0
    · rw [e, Nat.add_zero, HLM.out]; exact Nat.le_refl _
    · exact HS.out (m + i) (by omega) (by omega)
  go_wp2_with fail
  refine (zzsol (Z.drop m) b (off + m) (N - m) (cap - m) nm (fun i => A (m + i)) (fun i => cp (m + i)) _ HT1.out (by omega) (by omega) HT2.out (by omega) HT3.out (by omega) HG6.out).mono ?_
  rintro e w7 ⟨vb, vw, By, Wy, rfl, hb, hw, ⟨ab3, cb3, rfl, rb, nb⟩, ⟨aw3, cw3, rfl, rw', nw⟩, hbel⟩
  have HLBY : Hid (By.length = nm) := (len_of hb).trans HT2.out
  have HLWY : Hid (Wy.length = nm) := (len_of hw).trans HT2.out
  have HMB : Hid (∀ k, k < n0 → C (Bw.getD k 0) = if k < nm then omax (C (Bx.getD k 0)) (C (By.getD k 0)) else C (Bx.getD k 0)) := fun k hk => by
    have := merge_words Fl.omax_assoc HBZ.out HBX.out hb hm1 (by rw [HN.out]; exact hm) (by rw [HN.out, HLM.out]; exact HS.out) (k := k) (by rw [HL0.out]; exact hk)
    rw [HLM.out] at this
    exact this
  have HMW : Hid (∀ k, k < n0 → C (Ww.getD k 0) = if k < nm then omin (C (Wx.getD k 0)) (C (Wy.getD k 0)) else C (Wx.getD k 0)) := fun k hk => by
    have := merge_words Fl.omin_assoc HWZ.out HWX.out hw hm1 (by rw [HN.out]; exact hm) (by rw [HN.out, HLM.out]; exact HS.out) (k := k) (by rw [HL0.out]; exact hk)
    rw [HLM.out] at this
    exact this
  have HR7 : Hid (Reads w7.heap.size w7 ab1 Bw ∧ Reads w7.heap.size w7 aw1 Ww ∧ Reads w7.heap.size w7 ab2 Bx ∧ Reads w7.heap.size w7 aw2 Wx ∧ Reads w7.heap.size w7 ab3 By ∧ Reads w7.heap.size w7 aw3 Wy) :=
    ⟨HRB2.out.1.below hbel hbel.size, HRB2.out.2.1.below hbel hbel.size, HRB2.out.2.2.1.below hbel hbel.size, HRB2.out.2.2.2.below hbel hbel.size, rb, rw'⟩
  have HB7 : Hid (Below w.heap.size w w7) := HB6.out.trans (hbel.mono HB6.out.size)
  have hc0 : w7.cell? ⟨b, off, none⟩ = some (.slice (A 0) n0 (cp 0)) := by
    have := HGR.out.cell 0 hNn
    rw [Nat.add_zero, HL0.out] at this
    rw [HB7.out.cell (by exact HGR.out.lt)]
    exact this
  rw [HLBY.out, HLWY.out]
  generalize A 0 = A0 at hc0
  generalize cp 0 = cp0 at hc0
  have hnq : ((n0 : Int) != (n0 : Int)) = false := by simp
  have hnq2 : ((nm : Int) != (nm : Int)) = false := by simp
  clear hb hw rb nb rw' nw hbel HG6 HB6 HRB2 HT1 HT2 HT3 HBZ HWZ HBX HWX HS HQ HLM HL0 HGR HCM HLR HRL HN
  go_upto_if 173 with fail
  go_cut [] from 22 to 173 (fun wr => w7 = wr)
  case first => as_aux_lemma =>
    go_wp2
    go_meet
    case rel => rfl
  case rest =>
  obtain rfl := hcut
  clear hnq hnq2 hc0
  go_wp2
  go_loopw [19] (fun t wr => ∃ k : Nat, k ≤ n0 ∧ t = .int .i64 k ∧ w7 = wr) (fun t _ => n0 - (intOf t).toNat)
  case atStart => exact ⟨0, by omega, rfl, rfl⟩
  case round =>
    obtain ⟨k, hk, rfl, rfl⟩ := hrel
    by_cases hlt : k < n0
    · obtain ⟨b1, o1, e1, _, d1⟩ := HR7.out.1.resolve_left (by rintro e; have := HLB.out; rw [e] at this; simp at this; omega)
      obtain ⟨b2, o2, e2, _, d2⟩ := HR7.out.2.1.resolve_left (by rintro e; have := HLW.out; rw [e] at this; simp at this; omega)
      obtain ⟨b3, o3, e3, _, d3⟩ := HR7.out.2.2.1.resolve_left (by rintro e; have := HLBX.out; rw [e] at this; simp at this; omega)
      obtain ⟨b4, o4, e4, _, d4⟩ := HR7.out.2.2.2.1.resolve_left (by rintro e; have := HLWX.out; rw [e] at this; simp at this; omega)
      subst e1 e2 e3 e4
      have c1 := d1 k (by rw [HLB.out]; exact hlt)
      have c2 := d2 k (by rw [HLW.out]; exact hlt)
      have c3 := d3 k (by rw [HLBX.out]; exact hlt)
      have c4 := d4 k (by rw [HLWX.out]; exact hlt)
      have m1 := HMB.out k hlt
      have m2 := HMW.out k hlt
      clear d1 d2 d3 d4
      by_cases hkm : k < nm
      · obtain ⟨b5, o5, e5, _, d5⟩ := HR7.out.2.2.2.2.1.resolve_left (by rintro e; have := HLBY.out; rw [e] at this; simp at this; omega)
        obtain ⟨b6, o6, e6, _, d6⟩ := HR7.out.2.2.2.2.2.resolve_left (by rintro e; have := HLWY.out; rw [e] at this; simp at this; omega)
        subst e5 e6
        have c5 := d5 k (by rw [HLBY.out]; exact hkm)
        have c6 := d6 k (by rw [HLWY.out]; exact hkm)
        rw [if_pos hkm] at m1 m2
        have M1 : Hid (C (Bw.getD k 0) = omax (C (Bx.getD k 0)) (C (By.getD k 0))) := m1
        have M2 : Hid (C (Ww.getD k 0) = omin (C (Wx.getD k 0)) (C (Wy.getD k 0))) := m2
        clear d5 d6 m1 m2
        generalize Bw.getD k 0 = x1 at *
        generalize Ww.getD k 0 = x2 at *
        generalize Bx.getD k 0 = x3 at *
        generalize Wx.getD k 0 = x4 at *
        generalize By.getD k 0 = x5 at *
        generalize Wy.getD k 0 = x6 at *
        go_wp2_with fail
        refine (maxF_any _ _ _).mono ?_
        rintro e w' ⟨y1, rfl, p1, rfl⟩
        have s1 : sameC x1 y1 = true := by unfold sameC; rw [M1.out, p1]; exact beq_self_eq_true _
        clear p1
        go_wp2_with fail
        refine (minF_any _ _ _).mono ?_
        rintro e w' ⟨y2, rfl, p2, rfl⟩
        have s2 : sameC x2 y2 = true := by unfold sameC; rw [M2.out, p2]; exact beq_self_eq_true _
        clear p2
        go_wp2_with fail
        refine (sameF_any _ _ _).mono ?_
        rintro e w' ⟨rfl, rfl⟩
        rw [s1]
        go_wp2_with fail
        refine (sameF_any _ _ _).mono ?_
        rintro e w' ⟨rfl, rfl⟩
        rw [s2]
        go_wp2
        go_roundw
        case rel => exact ⟨k + 1, by omega, by go_num, by trivial⟩
        case measure => simp [intOf]; omega
      · rw [if_neg hkm] at m1 m2
        have s1 : sameC (Bw.getD k 0) (Bx.getD k 0) = true := by unfold sameC; rw [m1]; exact beq_self_eq_true _
        have s2 : sameC (Ww.getD k 0) (Wx.getD k 0) = true := by unfold sameC; rw [m2]; exact beq_self_eq_true _
        clear m1 m2
        generalize Bw.getD k 0 = x1 at *
        generalize Ww.getD k 0 = x2 at *
        generalize Bx.getD k 0 = x3 at *
        generalize Wx.getD k 0 = x4 at *
        go_wp2_with fail
        refine (sameF_any _ _ _).mono ?_
        rintro e w' ⟨rfl, rfl⟩
        rw [s1]
        go_wp2_with fail
        refine (sameF_any _ _ _).mono ?_
        rintro e w' ⟨rfl, rfl⟩
        rw [s2]
        go_wp2
        go_roundw
        case rel => exact ⟨k + 1, by omega, by go_num, by trivial⟩
        case measure => simp [intOf]; omega
    · go_wp2
      go_ret
      exact ⟨rfl, HB7.out⟩
end Go.Proofs.Qxb6619316a
