/-
  THE WALK of FnSolutionsBoundEveryEntryAndAbsorbTheirOwnRows.
-/
import Derived.Test.Qxb6619316aBoundParts
namespace Go.Proofs.Qxb6619316a
open Go.RowKit
open Fl (fmax fmin Num sv C omax omin mrgTo mrg accTo sol colTo nanTo)
attribute [local go_sem] run_store_float

set_option maxRecDepth 100000 in
set_option maxHeartbeats 4000000 in
theorem bound_walk (Z : List (List Nat)) (a : Option Addr) (N cap : Nat) (A : Nat → Option Addr) (cp : Nat → Nat) (w : World) (hN : Z.length = N) (hl : N ≤ 9223372036854775807) (hNc : N ≤ cap) (hrl : ∀ i, i < N → (Z.getD i []).length ≤ 9223372036854775807) (hG : CameRows w a N A cp Z) :
    Calls Try.prog 4 #[.slice a N cap] w fun e w' => e = .returned (.bool true) ∧ Below w.heap.size w w' := by
  have HBY := bytes13 Z a N cap A cp w hN hl hrl hG
  have HG : Hid (CameRows w a N A cp Z) := hG
  have HN : Hid (Z.length = N) := hN
  have HRL : Hid (∀ i, i < N → (Z.getD i []).length ≤ 9223372036854775807) := hrl
  clear hG hN hrl
  go_enter Try.func4, Try.ntmps4
  go_wp2_with fail
  refine HBY.mono ?_
  clear HBY
  rintro e w' ⟨r, rfl, rfl⟩
  cases r with
  | false =>
    go_wp2
    go_ret
    exact ⟨rfl, Below.refl _ _⟩
  | true =>
  by_cases h1 : N ≤ 65536
  rotate_left
  · go_wp2
    go_ret
    exact ⟨rfl, Below.refl _ _⟩
  by_cases h0 : N = 0
  · subst h0
    have hz : ((0 : Int) == 0) = true := rfl
    go_wp2
    refine wp_loop_rounds 1 ?_
    rw [rounds_succ]
    go_wp2
    go_ret
    exact ⟨rfl, Below.refl _ _⟩
  have hN0 : ((N : Int) == 0) = false := by rw [beq_eq_false_iff_ne]; omega
  have hNn : 0 < N := by omega
  obtain ⟨b, off, rfl, hgr⟩ := HG.out.resolve_left (by rintro e; have := HN.out; rw [e] at this; simp at this; omega)
  have HGR : Hid (Grid w.heap.size w b off N A cp Z) := hgr
  clear hgr HG h0
  go_upto_block 0 with fail
  go_cut [] (fun wr => Hid (∀ i, i < N → (Z.getD i []).length ≤ 131072) ∧ w = wr)
  case first => as_aux_lemma =>
    clear hN0
    go_wp2
    go_loop [3, 28] (fun z t => ∃ k n : Nat, k ≤ N ∧ t = .int .i64 k ∧ z = .int .i64 n ∧ n ≤ 1048576 ∧ Hid (∀ i, i < k → (Z.getD i []).length ≤ 131072)) (fun _ t => N - (intOf t).toNat)
    case atStart => exact ⟨0, 0, Nat.zero_le _, rfl, rfl, by omega, fun i hi => absurd hi (Nat.not_lt_zero _)⟩
    case round =>
      obtain ⟨k, n, hk, rfl, rfl, hn, HP⟩ := hrel
      by_cases hlt : k < N
      · have hc := HGR.out.cell k hlt
        have hr := HRL.out k hlt
        obtain ⟨L, hL⟩ : ∃ L, (Z.getD k []).length = L := ⟨_, rfl⟩
        have HL : Hid ((Z.getD k []).length = L) := hL
        rw [hL] at hc hr
        generalize A k = ar at *
        generalize cp k = cr at *
        clear hL
        by_cases h4 : L ≤ 131072
        · by_cases h5 : n + (24 + 8 * L) ≤ 1048576
          · have HP2 : Hid (∀ i, i < k + 1 → (Z.getD i []).length ≤ 131072) := by
              intro i hi
              by_cases e : i = k
              · rw [e, HL.out]; exact h4
              · exact HP.out i (by omega)
            go_wp2
            go_round
            case rel => exact ⟨k + 1, n + (24 + 8 * L), by omega, by go_num, by go_num, by omega, HP2⟩
            case measure => simp [intOf]; omega
          · go_wp2
            go_ret
            exact ⟨rfl, Below.refl _ _⟩
        · go_wp2
          go_ret
          exact ⟨rfl, Below.refl _ _⟩
      · obtain rfl : k = N := by omega
        go_wp2
        go_meet
        case rel => exact ⟨HP, rfl⟩
  case rest =>
  obtain ⟨HP, rfl⟩ := hcut
  have hc0 := HGR.out.cell 0 hNn
  rw [Nat.add_zero] at hc0
  obtain ⟨n0, hn0⟩ : ∃ L, (Z.getD 0 []).length = L := ⟨_, rfl⟩
  have hl0 : n0 ≤ 131072 := by rw [← hn0]; exact HP.out 0 hNn
  rw [hn0] at hc0
  have HL0 : Hid ((Z.getD 0 []).length = n0) := hn0
  generalize A 0 = A0 at hc0
  generalize cp 0 = cp0 at hc0
  clear hn0
  go_upto_block 2 with fail
  go_cut [] (fun wr => Hid (∀ i, i < N → (Z.getD i []).length ≤ n0) ∧ w = wr)
  case first => as_aux_lemma =>
    clear hc0 hN0
    go_wp2
    go_loop [7] (fun t => ∃ k : Nat, 1 ≤ k ∧ k ≤ N ∧ t = .int .i64 k ∧ Hid (∀ i, i < k → (Z.getD i []).length ≤ n0)) (fun t => N - (intOf t).toNat)
    case atStart => exact ⟨1, by omega, by omega, rfl, fun i hi => by rw [show i = 0 from by omega, HL0.out]; exact Nat.le_refl _⟩
    case round =>
      obtain ⟨k, hk1, hk, rfl, HQ⟩ := hrel
      by_cases hlt : k < N
      · have hc := HGR.out.cell k hlt
        have hr := HRL.out k hlt
        obtain ⟨L, hL⟩ : ∃ L, (Z.getD k []).length = L := ⟨_, rfl⟩
        have HL : Hid ((Z.getD k []).length = L) := hL
        rw [hL] at hc hr
        generalize A k = ar at *
        generalize cp k = cr at *
        clear hL
        by_cases h4 : L ≤ n0
        · have HQ2 : Hid (∀ i, i < k + 1 → (Z.getD i []).length ≤ n0) := by
            intro i hi
            by_cases e : i = k
            · rw [e, HL.out]; exact h4
            · exact HQ.out i (by omega)
          go_wp2
          go_round
          case rel => exact ⟨k + 1, by omega, by omega, by go_num, HQ2⟩
          case measure => simp [intOf]; omega
        · go_wp2
          go_ret
          exact ⟨rfl, Below.refl _ _⟩
      · obtain rfl : k = N := by omega
        go_wp2
        go_meet
        case rel => exact ⟨HQ, rfl⟩
  case rest =>
  obtain ⟨HQ, rfl⟩ := hcut
  clear hc0 hN0
  obtain ⟨R, hR⟩ : ∃ R, R = Z.map (·.map C) := ⟨_, rfl⟩
  have HR : Hid (R = Z.map (·.map C)) := hR
  have HRN : Hid (R.length = N) := by show _ = _; rw [hR]; simpa using HN.out
  have HR0 : Hid ((R.getD 0 []).length = n0) := by show _ = _; rw [hR, getD_map_rows]; simpa using HL0.out
  clear hR
  go_wp2_with fail
  refine (zzsol Z b off N cap n0 A cp _ HN.out hNn (by omega) HL0.out (by omega) HQ.out hNc HGR.out).mono ?_
  rintro e w1 ⟨vb, vw, Bw, Ww, rfl, hb, hw, ⟨ab, cb, rfl, rb, nb⟩, ⟨aw, cw, rfl, rw', nw⟩, hbel⟩
  have HB : Hid (Bw.map C = sol omax R) := by rw [HR.out]; exact hb
  have HW : Hid (Ww.map C = sol omin R) := by rw [HR.out]; exact hw
  have HLB : Hid (Bw.length = n0) := by show _ = _; have := congrArg List.length HB.out; rw [List.length_map, Fl.sol_length, HR0.out] at this; exact this
  have HLW : Hid (Ww.length = n0) := by show _ = _; have := congrArg List.length HW.out; rw [List.length_map, Fl.sol_length, HR0.out] at this; exact this
  have HRB : Hid (Reads w1.heap.size w1 ab Bw) := rb
  have HRW : Hid (Reads w1.heap.size w1 aw Ww) := rw'
  have HNB : Hid (ab = none → Bw = []) := nb
  have HNW : Hid (aw = none → Ww = []) := nw
  have HG1 : Hid (Grid w1.heap.size w1 b off N A cp Z) := HGR.out.below hbel hbel.size
  have HB1 : Hid (Below w.heap.size w w1) := hbel
  rw [HLB.out, HLW.out]
  clear hb hw rb rw' nb nw hbel HGR HP
  have HK1 : Hid (∀ k, k < n0 → C (Bw.getD k 0) = colTo omax R k (R.length - 1)) := fun k hk => by
    rw [← getD_map_C Bw k (by rw [HLB.out]; exact hk), HB.out, Fl.sol_get _ _ _ (by rw [HR0.out]; exact hk)]
  have HK2 : Hid (∀ k, k < n0 → C (Ww.getD k 0) = colTo omin R k (R.length - 1)) := fun k hk => by
    rw [← getD_map_C Ww k (by rw [HLW.out]; exact hk), HW.out, Fl.sol_get _ _ _ (by rw [HR0.out]; exact hk)]
  obtain ⟨i4, hi4, hz40, hz41, hz42⟩ := info_parts Try.info4
  go_wp2_with (at_make; refine wpList_make_full _ rfl _ _ 32 rfl w1.heap.size 4 i4 (.bool false) 1 Try.underlying32 hi4 hz40 hz41 _ _ _ _ n0 rfl rfl rfl rfl (by rw [hz42]; omega) (by unfold maxLen; omega) (Nat.le_refl _) ?_)
  intro w2 hown hgr
  have HB2 : Below w1.heap.size w1 w2 := (Below.refl _ _).grown hgr (Nat.le_refl _) (by simp)
  have HO : Hid (w2.ownsRow w1.heap.size 4 1 (.slice (some ⟨w1.heap.size, 0, none⟩) n0 n0) n0 (H n0 (fun j => nanB R j 0))) := by
    have h := hown
    rw [toList_madeCells_one] at h
    rw [show H n0 (fun j => nanB R j 0) = List.replicate n0 (.bool false) from H_false n0]
    exact h
  clear hown hgr hi4 hz40 hz41 hz42
  go_upto_block 4 with fail
  go_cut [] (fun wr => Hid (wr.ownsRow w1.heap.size 4 1 (.slice (some ⟨w1.heap.size, 0, none⟩) n0 n0) n0 (H n0 (fun j => nanB R j N))) ∧ Below w1.heap.size w1 wr)
  case first => as_aux_lemma =>
    go_wp2
    go_loopw [11] (fun t wr => ∃ i : Nat, i ≤ N ∧ t = .int .i64 i ∧ Hid (wr.ownsRow w1.heap.size 4 1 (.slice (some ⟨w1.heap.size, 0, none⟩) n0 n0) n0 (H n0 (fun j => nanB R j i))) ∧ Below w1.heap.size w1 wr) (fun t _ => N - (intOf t).toNat)
    case atStart => exact ⟨0, by omega, rfl, HO, HB2⟩
    case round =>
      obtain ⟨i, hi, rfl, HOI, hbi⟩ := hrel
      clear HO HB2
      by_cases hlt : i < N
      · have hci : wr.cell? ⟨b, off + i, none⟩ = some (.slice (A i) (Z.getD i []).length (cp i)) := by rw [hbi.cell (by exact HG1.out.lt)]; exact HG1.out.cell i hlt
        have hL := HQ.out i hlt
        have HRI : Hid (Reads w1.heap.size w1 (A i) (Z.getD i [])) := HG1.out.row i hlt
        obtain ⟨row, hrw⟩ : ∃ row, Z.getD i [] = row := ⟨_, rfl⟩
        have HROW : Hid (R.getD i [] = row.map C) := by show _ = _; rw [HR.out, getD_map_rows, hrw]
        rw [hrw] at hci hL HRI
        generalize A i = ar at *
        generalize cp i = cr at *
        clear hrw
        go_wp2
        go_loopw [13] (fun t wr => ∃ k : Nat, k ≤ row.length ∧ t = .int .i64 k ∧ Hid (wr.ownsRow w1.heap.size 4 1 (.slice (some ⟨w1.heap.size, 0, none⟩) n0 n0) n0 (H n0 (fun j => nanK R i k j))) ∧ Below w1.heap.size w1 wr) (fun t _ => row.length - (intOf t).toNat)
        case atStart => exact ⟨0, by omega, rfl, by simp only [nanK_zero]; exact HOI, hbi⟩
        case round =>
          obtain ⟨k, hk, rfl, HOK, hbk⟩ := hrel
          clear HOI hbi hci
          by_cases hlt2 : k < row.length
          · obtain ⟨br, obr, hare, hbr, hcr⟩ := HRI.out.resolve_left (by rintro e; rw [e] at hlt2; simp at hlt2)
            subst hare
            have hkn : k < n0 := by omega
            obtain ⟨bb, ob, habe, hbb, hcb⟩ := HRB.out.resolve_left (by rintro e; have := HLB.out; rw [e] at this; simp at this; omega)
            obtain ⟨bw, ow, hawe, hbw, hcw⟩ := HRW.out.resolve_left (by rintro e; have := HLW.out; rw [e] at this; simp at this; omega)
            subst habe hawe
            have c1 : wr.cell? ⟨br, obr + k, none⟩ = some (.float .f64 (row.getD k 0)) := by rw [hbk.cell (by exact hbr)]; exact hcr k hlt2
            have c2 : wr.cell? ⟨bb, ob + k, none⟩ = some (.float .f64 (Bw.getD k 0)) := by rw [hbk.cell (by exact hbb)]; exact hcb k (by rw [HLB.out]; exact hkn)
            have c3 : wr.cell? ⟨bw, ow + k, none⟩ = some (.float .f64 (Ww.getD k 0)) := by rw [hbk.cell (by exact hbw)]; exact hcw k (by rw [HLW.out]; exact hkn)
            have c4 : wr.cell? ⟨w1.heap.size, k, none⟩ = some (.bool (nanK R i k k)) := by rw [World.ownsRow.cellAt HOK.out k (by omega), H_get _ _ _ hkn]
            have c5 : wr.frozen? ⟨w1.heap.size, k, none⟩ = false := World.ownsRow.frozenAt HOK.out k
            have hyc : C (row.getD k 0) = (R.getD i []).getD k none := by rw [HROW.out, getD_map_C row k hlt2]
            have hkr : k < (R.getD i []).length := by rw [HROW.out]; simpa using hlt2
            have hup := fun n1 n2 => bound_up (R := R) (by rw [HRN.out]; exact hlt) hkr hyc (HK1.out k hkn) n1 n2
            have hlo := fun n1 n2 => bound_lo (R := R) (by rw [HRN.out]; exact hlt) hkr hyc (HK2.out k hkn) n1 n2
            have hyes := nanK_yes R i k hkr
            have hno := nanK_no R i k
            rw [← hyc] at hyes hno
            have HYES : Hid (C (row.getD k 0) = none → ∀ j, (nanK R i k j || j == k) = nanK R i (k + 1) j) := hyes
            have HNO : Hid (C (row.getD k 0) ≠ none → ∀ j, nanK R i k j = nanK R i (k + 1) j) := hno
            generalize row.getD k 0 = y at *
            generalize Bw.getD k 0 = xb at *
            generalize Ww.getD k 0 = xw at *
            generalize nanK R i k k = q0 at c4
            clear hyes hno hyc hkr hcr hcb hcw hbr hbb hbw
            cases ny : isN y with
            | true =>
              have HOK2 : Hid ((wr.setCell ⟨w1.heap.size, k, none⟩ (.bool true)).ownsRow w1.heap.size 4 1 (.slice (some ⟨w1.heap.size, 0, none⟩) n0 n0) n0 (H n0 (fun j => nanK R i (k + 1) j))) := by
                have h := (World.ownsRow.stored HOK.out k (.bool true)).1
                rw [H_set, H_congr (fun j _ => HYES.out (Fl.C_nan (nan_of_isN ny)) j)] at h
                exact h
              have HBE : Hid (Below w1.heap.size w1 (wr.setCell ⟨w1.heap.size, k, none⟩ (.bool true))) := hbk.setCell (by exact Nat.le_refl _) _
              clear hup hlo hbk c2 c3
              go_wp2_with (go_at_call 14; refine (nan_any _ _).mono ?_; rintro e w' ⟨rfl, rfl⟩)
              go_roundw
              case rel => exact ⟨k + 1, by omega, by go_num, HOK2, HBE.out⟩
              case measure => simp [intOf]; omega
            | false =>
              have HOK2 : Hid (wr.ownsRow w1.heap.size 4 1 (.slice (some ⟨w1.heap.size, 0, none⟩) n0 n0) n0 (H n0 (fun j => nanK R i (k + 1) j))) := by
                have h := HOK.out
                rw [H_congr (fun j _ => HNO.out (by rw [Fl.C_num (num_of_isN ny)]; simp) j)] at h
                exact h
              clear c4 c5
              cases nb : isN xb with
              | true =>
                cases nw : isN xw with
                | true =>
                  clear hup hlo
                  go_wp2_with (go_at_call 14; refine (nan_any _ _).mono ?_; rintro e w' ⟨rfl, rfl⟩)
                  go_roundw
                  case rel => exact ⟨k + 1, by omega, by go_num, HOK2, hbk⟩
                  case measure => simp [intOf]; omega
                | false =>
                  have q2 := hlo ny nw
                  clear hup hlo
                  go_wp2_with (go_at_call 14; refine (nan_any _ _).mono ?_; rintro e w' ⟨rfl, rfl⟩)
                  go_roundw
                  case rel => exact ⟨k + 1, by omega, by go_num, HOK2, hbk⟩
                  case measure => simp [intOf]; omega
              | false =>
                have q1 := hup ny nb
                cases nw : isN xw with
                | true =>
                  clear hup hlo
                  go_wp2_with (go_at_call 14; refine (nan_any _ _).mono ?_; rintro e w' ⟨rfl, rfl⟩)
                  go_roundw
                  case rel => exact ⟨k + 1, by omega, by go_num, HOK2, hbk⟩
                  case measure => simp [intOf]; omega
                | false =>
                  have q2 := hlo ny nw
                  clear hup hlo
                  go_wp2_with (go_at_call 14; refine (nan_any _ _).mono ?_; rintro e w' ⟨rfl, rfl⟩)
                  go_roundw
                  case rel => exact ⟨k + 1, by omega, by go_num, HOK2, hbk⟩
                  case measure => simp [intOf]; omega
          · obtain rfl : k = row.length := by omega
            have HOK2 : Hid (wr.ownsRow w1.heap.size 4 1 (.slice (some ⟨w1.heap.size, 0, none⟩) n0 n0) n0 (H n0 (fun j => nanB R j (i + 1)))) := by
              have h := HOK.out
              have hl : row.length = (R.getD i []).length := by rw [HROW.out]; simp
              rw [hl] at h
              simp only [nanK_end] at h
              exact h
            clear HOK
            go_wp2
            go_roundw
            case rel => exact ⟨i + 1, by omega, by go_num, HOK2, hbk⟩
            case measure => simp [intOf]; omega
      · obtain rfl : i = N := by omega
        go_wp2
        go_meet
        case rel => exact ⟨HOI, hbi⟩
  case rest =>
  clear HO HB2
  obtain ⟨HO, HB2⟩ := hcut
  go_upto_block 8 with fail
  go_cut [] (fun wr => Below w1.heap.size w1 wr)
  case first => as_aux_lemma =>
    go_wp2
    go_loopw [15] (fun t wr => ∃ k : Nat, k ≤ n0 ∧ t = .int .i64 k ∧ Hid (wr.ownsRow w1.heap.size 4 1 (.slice (some ⟨w1.heap.size, 0, none⟩) n0 n0) n0 (H n0 (fun j => nanB R j N))) ∧ Below w1.heap.size w1 wr) (fun t _ => n0 - (intOf t).toNat)
    case atStart => exact ⟨0, by omega, rfl, HO, HB2⟩
    case round =>
      obtain ⟨k, hk, rfl, HOK, hbk⟩ := hrel
      clear HO HB2
      by_cases hlt : k < n0
      · obtain ⟨bb, ob, habe, hbb, hcb⟩ := HRB.out.resolve_left (by rintro e; have := HLB.out; rw [e] at this; simp at this; omega)
        obtain ⟨bw, ow, hawe, hbw, hcw⟩ := HRW.out.resolve_left (by rintro e; have := HLW.out; rw [e] at this; simp at this; omega)
        subst habe hawe
        have c2 : wr.cell? ⟨bb, ob + k, none⟩ = some (.float .f64 (Bw.getD k 0)) := by rw [hbk.cell (by exact hbb)]; exact hcb k (by rw [HLB.out]; exact hlt)
        have c3 : wr.cell? ⟨bw, ow + k, none⟩ = some (.float .f64 (Ww.getD k 0)) := by rw [hbk.cell (by exact hbw)]; exact hcw k (by rw [HLW.out]; exact hlt)
        have c4 : wr.cell? ⟨w1.heap.size, k, none⟩ = some (.bool (nanB R k N)) := by rw [World.ownsRow.cellAt HOK.out k (by omega), H_get _ _ _ hlt]
        have e1 := isN_max HRN.out hNn (by rw [HR0.out]; exact hlt) (HK1.out k hlt)
        have e2 := isN_min HRN.out hNn (by rw [HR0.out]; exact hlt) (HK2.out k hlt)
        generalize Bw.getD k 0 = xb at *
        generalize Ww.getD k 0 = xw at *
        generalize nanB R k N = q at *
        have hki : (k : Int) < (n0 : Int) := by omega
        clear hbb hbw hcb hcw
        cases q
        all_goals
          go_wp2
          go_quiet ((go_at_call 14; exact Calls.quiet_of_same (nan_q _ _)))
          have HO2 : Hid ((wr.drewN nq).ownsRow w1.heap.size 4 1 (.slice (some ⟨w1.heap.size, 0, none⟩) n0 n0) n0 (H n0 (fun j => nanB R j N))) := HOK
          have HB3 : Below w1.heap.size w1 (wr.drewN nq) := below_drewN hbk nq
          clear HOK hbk c2 c3 c4
          go_wp2
          go_roundw
          case rel => exact ⟨k + 1, by omega, by go_num, HO2, HB3⟩
          case measure => simp [intOf]; omega
      · go_wp2
        go_meet
        case rel => exact hbk
  case rest =>
  clear HO HB2
  obtain ⟨w4, hw4⟩ : ∃ x, x = wc := ⟨_, rfl⟩
  subst hw4
  have HB4 : Hid (Below w.heap.size w w4) := HB1.out.trans (hcut.mono HB1.out.size)
  have HG4 : Hid (Grid w4.heap.size w4 b off N A cp Z) := HG1.out.below hcut hcut.size
  have HRB4 : Hid (Reads w4.heap.size w4 ab Bw) := HRB.out.below hcut hcut.size
  have HRW4 : Hid (Reads w4.heap.size w4 aw Ww) := HRW.out.below hcut hcut.size
  clear hcut HB1 HG1 HRB HRW HK1 HK2
  obtain ⟨i24, hi24, hz240, hz241, hz242⟩ := info_parts Try.info24
  go_wp2_with (at_make; refine wpList_make_own _ rfl _ _ 22 rfl w4.heap.size 24 i24 (.slice none 0 0) 1 Try.underlying22 hi24 hz240 hz241 _ _ _ (N + 2) rfl rfl (by omega) (by rw [hz242]; omega) (by unfold maxLen; omega) (Nat.le_refl _) ?_)
  intro w5 hown hgr
  have HB5 : Below w4.heap.size w4 w5 := (Below.refl _ _).grown hgr (Nat.le_refl _) (by simp)
  have HO : Hid (w5.ownsRow w4.heap.size 24 1 (.slice (some ⟨w4.heap.size, 0, none⟩) 0 (N + 2)) 0 (hd A cp Z 0)) := hown
  clear hown hgr
  go_upto_block 10 with fail
  go_cut [16] (fun v wr => v = .slice (some ⟨w4.heap.size, 0, none⟩) N (N + 2) ∧ Hid (wr.ownsRow w4.heap.size 24 1 (.slice (some ⟨w4.heap.size, 0, none⟩) N (N + 2)) N (hd A cp Z N)) ∧ Below w4.heap.size w4 wr)
  case first => as_aux_lemma =>
    go_wp2
    go_loopw [16, 17] (fun v t wr => ∃ k : Nat, k ≤ N ∧ t = .int .i64 k ∧ v = .slice (some ⟨w4.heap.size, 0, none⟩) k (N + 2) ∧ wr.ownsRow w4.heap.size 24 1 (.slice (some ⟨w4.heap.size, 0, none⟩) k (N + 2)) k (hd A cp Z k) ∧ Below w4.heap.size w4 wr) (fun _ t _ => N - (intOf t).toNat)
    case atStart => exact ⟨0, by omega, rfl, rfl, HO.out, HB5⟩
    case round =>
      obtain ⟨k, hk, rfl, rfl, hown, hbel⟩ := hrel
      clear HO HB5
      by_cases hlt : k < N
      · have hc : wr.cell? ⟨b, off + k, none⟩ = some (.slice (A k) (Z.getD k []).length (cp k)) := by rw [hbel.cell (by exact HG4.out.lt)]; exact HG4.out.cell k hlt
        have HS : Hid (hd A cp Z (k + 1) = hd A cp Z k ++ [.slice (A k) (Z.getD k []).length (cp k)]) := hd_succ A cp Z k
        generalize A k = ar at hc HS
        generalize (Z.getD k []).length = lr at hc HS
        generalize cp k = cr at hc HS
        go_wp2_with (at_builtin; refine wpList_append_fits _ rfl _ _ 22 rfl w4.heap.size 24 i24 1 Try.underlying22 hi24 hz241 _ _ _ _ rfl (hown.alloc _) ⟨wr.heap.size, 0, none⟩ 1 1 [.slice ar lr cr] rfl rfl (cell_one_new _ _ _) (by simp [Value.oneCell']) (by omega) ?_)
        intro w6 hown2 hgr2
        have R6 := step24 (Nat.le_refl _) hbel hown2 hgr2
        rw [← HS.out] at R6
        have HR6 : Hid _ := R6
        clear hown2 hgr2 R6 hown hc
        go_wp2
        go_roundw
        case rel => exact ⟨k + 1, by omega, by go_num, rfl, HR6.out.1, HR6.out.2⟩
        case measure => simp [intOf]; omega
      · obtain rfl : k = N := by omega
        have HOW : Hid _ := hown
        clear hown
        go_wp2
        go_meet
        case rel => exact ⟨rfl, HOW.out, hbel⟩
  case rest =>
  clear HO HB5
  obtain ⟨rfl, HO, hbel⟩ := hcut
  obtain ⟨w6, hw6⟩ : ∃ x, x = wc := ⟨_, rfl⟩
  subst hw6
  go_wp2_with (at_builtin; refine wpList_append_fits _ rfl (.tmp 178) (.tmp 180) 22 rfl w4.heap.size 24 i24 1 Try.underlying22 hi24 hz241 _ _ _ _ rfl (World.ownsRow.alloc HO.out _) ⟨w6.heap.size, 0, none⟩ 1 1 [.slice ab n0 cb] rfl rfl (cell_one_new _ _ _) (by simp [Value.oneCell']) (by omega) ?_)
  intro w7 hown2 hgr2
  have R7 := step24 (Nat.le_refl _) hbel hown2 hgr2
  clear hown2 hgr2 hbel HO
  obtain ⟨hown7, hbel7⟩ := R7
  go_wp2_with (at_builtin; refine wpList_append_fits _ rfl (.tmp 182) (.tmp 184) 22 rfl w4.heap.size 24 i24 1 Try.underlying22 hi24 hz241 _ _ _ _ rfl (hown7.alloc _) ⟨w7.heap.size, 0, none⟩ 1 1 [.slice aw n0 cw] rfl rfl (cell_one_new _ _ _) (by simp [Value.oneCell']) (by omega) ?_)
  intro w8 hown2 hgr2
  rw [show hd A cp Z N ++ [.slice ab n0 cb, .slice aw n0 cw] = (hd A cp Z N ++ [.slice ab n0 cb]) ++ [.slice aw n0 cw] from by simp] at hown2
  have R8 := step24 (Nat.le_refl _) hbel7 hown2 hgr2
  clear hown2 hgr2 hbel7 hown7
  obtain ⟨hown8, hbel8⟩ := R8
  have hlt8 : w4.heap.size < w8.heap.size := (hown8.lt w4.heap.size rfl).2
  have HG8 : Hid (Grid w8.heap.size w8 w4.heap.size 0 (N + 1 + 1) (ext2 A N ab aw) (ext2 cp N cb cw) (Z ++ [Bw, Ww])) := grid_ext HN.out HLB.out HLW.out hown8 HG4.out hbel8 hlt8 HRB4.out HRW4.out HNB.out HNW.out
  have HRB8 : Hid (Reads w8.heap.size w8 ab Bw) := HRB4.out.below hbel8 hbel8.size
  have HRW8 : Hid (Reads w8.heap.size w8 aw Ww) := HRW4.out.below hbel8 hbel8.size
  have HB8 : Hid (Below w.heap.size w w8) := HB4.out.trans (hbel8.mono HB4.out.size)
  have HZ8 : Hid ((Z ++ [Bw, Ww]).length = N + 1 + 1) := by show _ = _; rw [List.length_append, HN.out]; rfl
  have HZ0 : Hid (((Z ++ [Bw, Ww]).getD 0 []).length = n0) := by show _ = _; rw [Fl.getD_left Z _ 0 [] (by rw [HN.out]; exact hNn)]; exact HL0.out
  have HLL : Hid (∀ i, i < N + 1 + 1 → ((Z ++ [Bw, Ww]).getD i []).length ≤ n0) := fun i _ => ext_len (by rw [HN.out]; exact HQ.out) HLB.out HLW.out i
  have HRE : Hid ((Z ++ [Bw, Ww]).map (·.map C) = R ++ [sol omax R, sol omin R]) := by show _ = _; rw [List.map_append, ← HR.out]; simp only [List.map_cons, List.map_nil]; rw [HB.out, HW.out]
  clear hown8 hbel8 HG4 HRB4 HRW4 HB4 HNB HNW hi24 hz240 hz241 hz242 hlt8
  go_wp2_with fail
  refine (zzsol (Z ++ [Bw, Ww]) w4.heap.size 0 (N + 1 + 1) (N + 2) n0 (ext2 A N ab aw) (ext2 cp N cb cw) _ HZ8.out (by omega) (by omega) HZ0.out (by omega) HLL.out (by omega) HG8.out).mono ?_
  rintro e w9 ⟨vb, vw, B2, W2, rfl, hb, hw, ⟨ab2, cb2, rfl, rb, nb⟩, ⟨aw2, cw2, rfl, rw', nw⟩, hbel9⟩
  have HM1 : Hid (B2.map C = Bw.map C) := by show _ = _; rw [hb, HRE.out, Fl.absorb_max R (by rw [HRN.out]; exact hNn), HB.out]
  have HM2 : Hid (W2.map C = Ww.map C) := by show _ = _; rw [hw, HRE.out, Fl.absorb_min R (by rw [HRN.out]; exact hNn), HW.out]
  have HL2 : Hid (B2.length = n0) := by show _ = _; have := congrArg List.length HM1.out; simp only [List.length_map] at this; rw [this]; exact HLB.out
  have HL3 : Hid (W2.length = n0) := by show _ = _; have := congrArg List.length HM2.out; simp only [List.length_map] at this; rw [this]; exact HLW.out
  have H1 : Hid (Reads w9.heap.size w9 ab2 B2) := rb
  have H2 : Hid (Reads w9.heap.size w9 aw2 W2) := rw'
  have H3 : Hid (Reads w9.heap.size w9 ab Bw) := HRB8.out.below hbel9 hbel9.size
  have H4 : Hid (Reads w9.heap.size w9 aw Ww) := HRW8.out.below hbel9 hbel9.size
  have HB9 : Hid (Below w.heap.size w w9) := HB8.out.trans (hbel9.mono HB8.out.size)
  rw [HL2.out, HL3.out]
  clear hb hw rb nb rw' nw hbel9 HG8 HRB8 HRW8 HB8
  go_wp2_with fail
  refine (sameS_any B2 Bw _ _ _ _ _ _ _ _ HL2.out HLB.out (by omega) HM1.out H1.out H3.out).mono ?_
  rintro e w' ⟨rfl, m1, rfl⟩
  have H2' : Hid (Reads w9.heap.size (w9.drewN m1) aw2 W2) := H2
  have H4' : Hid (Reads w9.heap.size (w9.drewN m1) aw Ww) := H4
  go_wp2_with fail
  refine (sameS_any W2 Ww _ _ w9.heap.size _ _ _ _ _ HL3.out HLW.out (by omega) HM2.out H2'.out H4'.out).mono ?_
  rintro e w' ⟨rfl, m2, rfl⟩
  have HBE : Hid (Below w.heap.size w (w9.drewN (m1 + m2))) := below_drewN HB9.out (m1 + m2)
  go_wp2
  go_ret
  exact ⟨rfl, HBE.out⟩
end Go.Proofs.Qxb6619316a
