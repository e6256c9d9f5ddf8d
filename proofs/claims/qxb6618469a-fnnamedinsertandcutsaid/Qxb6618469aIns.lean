import Derived.Test.Qxb6618469aParts
namespace Go.Proofs.Qxb6618469a
open Go.RowKit

/-- What has been gathered when the second loop stands at m. -/
def mid (Z : List Int) (key : Int) (k m : Nat) : List Int := Z.take k ++ [key] ++ (Z.drop k).take (m - k)
theorem mid_start (Z : List Int) (key : Int) (k : Nat) : mid Z key k k = Z.take k ++ [key] := by simp [mid]
theorem mid_succ (Z : List Int) (key : Int) (k m : Nat) (h1 : k ≤ m) (h2 : m < Z.length) : mid Z key k (m + 1) = mid Z key k m ++ [Z.getD m 0] := by
  unfold mid
  rw [show m + 1 - k = (m - k) + 1 from by omega, take_succ (Z.drop k) (m - k) (by simp; omega)]
  simp [List.getD, show k + (m - k) = m from by omega]
theorem mid_end (Z : List Int) (key : Int) (k : Nat) : mid Z key k Z.length = Z.take k ++ [key] ++ Z.drop k := by
  unfold mid
  rw [List.take_of_length_le (l := Z.drop k) (by simp)]
theorem mid_length (Z : List Int) (key : Int) (k : Nat) (h : k ≤ Z.length) : (mid Z key k Z.length).length = Z.length + 1 := by
  rw [mid_end]; simp; omega
theorem has_mid (Z : List Int) (key o : Int) (k : Nat) : has (mid Z key k Z.length) o = (has Z o || (key == o)) := by
  rw [mid_end, has_append, has_append, has_cons]
  have e : has Z o = (has (Z.take k) o || has (Z.drop k) o) := by rw [← has_append, List.take_append_drop]
  rw [e]
  simp only [has]
  cases (Z.take k).contains o <;> cases (Z.drop k).contains o <;> cases (key == o) <;> rfl

set_option maxRecDepth 100000 in
set_option maxHeartbeats 1000000 in
theorem ins_walk (a0 : Option Addr) (cap0 : Nat) (Z : List Int) (key other : Int) (p i : Nat) (w : World) (hn : Z.length ≤ 65536) (hp : p ≤ Z.length) (hi : i ≤ Z.length)
    (hnil : a0 = none → Z = [] ∧ cap0 = 0) (hr : ∀ x, a0 = some x → ∀ j, j < Z.length → w.cell? (x.add j) = some (.int .u64 (Z.getD j 0))) :
    Calls Try.prog 3 #[.slice a0 Z.length cap0, .int .u64 key, .int .u64 other, .int .i64 p, .int .i64 i] w fun e w' => e = .returned (.bool true) ∧ Below w.heap.size w w' := by
  have HR : Hid (∀ x, a0 = some x → ∀ j, j < Z.length → w.cell? (x.add j) = some (.int .u64 (Z.getD j 0))) := hr
  have HN : Hid (a0 = none → Z = [] ∧ cap0 = 0) := hnil
  clear hr hnil
  have hneq := fun (wx : World) => run_neq_slice_nil_any (P := Try.prog) wx 22 23 a0 Z.length cap0 0 0 Try.underlying22
  obtain ⟨i0, hi0, hz0, hz1, hz2⟩ := info_parts Try.info23
  have hd : decide (Z.length ≤ 1048576) = true := by simp; omega
  go_enter Try.func3, Try.ntmps3
  go_upto_if 45 with (go_at_call 5; refine (bytes5 _ _ _ _ _ _ _ _ (by omega)).mono ?_; rintro e w' ⟨rfl, rfl⟩; rw [hd])
  go_cut [0] (fun v wr => Kept wr.heap.size wr v Z ∧ Below w.heap.size w wr)
  case first =>
    clear hd hneq
    cases a0 with
    | none =>
      obtain ⟨hZ, hc0⟩ := HN.out rfl
      subst hZ hc0
      go_wp2
      go_meet
      case rel => exact ⟨⟨none, rfl, .inl rfl⟩, Below.refl _ _⟩
    | some x =>
      go_wp2_with (at_make; refine wpList_make_full _ rfl _ _ 22 rfl w.heap.size 23 i0 (.int .u64 0) 1 Try.underlying22 hi0 hz0 hz1 _ _ _ _ Z.length rfl rfl rfl rfl (by rw [hz2]; omega) (by unfold maxLen; omega) (Nat.le_refl _) ?_)
      intro w1 hown hgr
      obtain ⟨cur, hcur, hcl⟩ := full_block hown
      have HB1 : Below w.heap.size w w1 := (Below.refl _ _).grown hgr (Nat.le_refl _) (by simp)
      have hcx : ∀ j, j < Z.length → w1.cell? (x.add j) = some (.int .u64 (Z.getD j 0)) := fun j hj => hgr.cell (HR.out x rfl j hj) (by simp)
      have HX : Hid (∀ j, j < Z.length → w1.cell? (x.add j) = some (.int .u64 (Z.getD j 0))) := hcx
      have HL : Hid (cur.length = Z.length) := hcl
      clear hcx hcl hown hgr
      go_wp2_with (refine wpList_copy_splice rfl (.tmp 49) (.tmp 50) 22 22 rfl 23 Try.underlying22 Try.size23 _ _ _ _ _ _ rfl rfl w.heap.size 0 cur 23 hcur (U Z) (by simp [U]) (fun _ => ⟨rfl, copy_pos rfl HX.out⟩) (by simp [U, HL.out]) (U_one Z) w.heap.size w HB1 (Nat.le_refl _) ?_)
      intro w2 HG HB2
      rw [splice_all (by simp [U, HL.out])] at HG
      have hlt : w.heap.size < w2.heap.size := (Array.getElem?_eq_some_iff.1 HG.out).1
      have HK : Hid (Kept w2.heap.size w2 (.slice (some ⟨w.heap.size, 0, none⟩) Z.length Z.length) Z) := kept_mk HG.out hlt
      clear HG HX HL hcur
      go_wp2
      go_meet
      case rel => exact ⟨HK.out, HB2⟩
  case rest =>
    obtain ⟨⟨a, rfl, hk⟩, hb⟩ := hcut
    clear hd hneq HR HN
    have HK : Hid (Z = [] ∨ ∃ g, g < wc.heap.size ∧ a = some ⟨g, 0, none⟩ ∧ ∀ j, j < Z.length → wc.cell? ⟨g, j, none⟩ = some (.int .u64 (Z.getD j 0))) := hk
    clear hk
    go_wp2_with (at_make; refine wpList_make_own _ rfl _ _ 22 rfl wc.heap.size 23 i0 (.int .u64 0) 1 Try.underlying22 hi0 hz0 hz1 _ _ _ (Z.length + 1) rfl rfl (by omega) (by rw [hz2]; omega) (by unfold maxLen; omega) (Nat.le_refl _) ?_)
    intro w1 hown hgr
    have HB1 : Below wc.heap.size wc w1 := (Below.refl _ _).grown hgr (Nat.le_refl _) (by simp)
    have HO : Hid (w1.ownsRow wc.heap.size 23 1 (.slice (some ⟨wc.heap.size, 0, none⟩) 0 (Z.length + 1)) 0 []) := hown
    clear hown hgr
    go_wp2
    go_loopw [12, 13] (fun v j wr => ∃ k : Nat, k ≤ p ∧ j = .int .i64 k ∧ v = .slice (some ⟨wc.heap.size, 0, none⟩) k (Z.length + 1) ∧ wr.ownsRow wc.heap.size 23 1 (.slice (some ⟨wc.heap.size, 0, none⟩) k (Z.length + 1)) k (U (Z.take k)) ∧ Below wc.heap.size wc wr)
      (fun _ j _ => p - (intOf j).toNat)
    case atStart => exact ⟨0, Nat.zero_le _, rfl, rfl, HO.out, HB1⟩
    case round =>
      obtain ⟨k, hk, rfl, rfl, hown, hbel⟩ := hrel
      by_cases hlt : k < p
      · obtain ⟨g, hg, rfl, hcell⟩ := HK.out.resolve_left (by rintro rfl; simp at hp; omega)
        obtain ⟨x, hx⟩ : ∃ x, Z.getD k 0 = x := ⟨_, rfl⟩
        have hcx : wr.cell? ⟨g, k, none⟩ = some (.int .u64 x) := by rw [hbel.cell (by exact hg), hcell k (by omega), hx]
        have HX : Hid (Z.getD k 0 = x) := hx
        clear hx hcell
        go_wp2_with (at_builtin; refine wpList_append_fits _ rfl _ _ 22 rfl wc.heap.size 23 i0 1 Try.underlying22 hi0 hz1 _ _ _ _ rfl (hown.alloc _) ⟨wr.heap.size, 0, none⟩ 1 1 [.int .u64 x] rfl rfl (cell_one_new _ _ _) (by simp [Value.oneCell']) (by omega) ?_)
        intro w2 hown2 hgr2
        have R := step (Nat.le_refl _) hbel hown2 hgr2
        rw [← HX.out, ← take_succ Z k (by omega)] at R
        have HR : Hid _ := R
        clear hown2 hgr2 R hown hcx
        go_wp2
        go_roundw
        case rel => exact ⟨k + 1, by omega, by go_num, rfl, HR.out.1, HR.out.2⟩
        case measure => simp [intOf]; omega
      · obtain rfl : k = p := by omega
        go_wp2_with (at_builtin; refine wpList_append_fits _ rfl (.tmp 69) (.tmp 71) 22 rfl wc.heap.size 23 i0 1 Try.underlying22 hi0 hz1 _ _ _ _ rfl (hown.alloc _) ⟨wr.heap.size, 0, none⟩ 1 1 [.int .u64 key] rfl rfl (cell_one_new _ _ _) (by simp [Value.oneCell']) (by omega) ?_)
        intro w2 hown2 hgr2
        have R := step (Nat.le_refl _) hbel hown2 hgr2
        clear hown2 hgr2 hown hbel HO HB1
        have HO2 : Hid _ := R.1
        have HB2 := R.2
        clear R
        go_wp2
        go_loopw [12, 14] (fun v j wr => ∃ m : Nat, k ≤ m ∧ m ≤ Z.length ∧ j = .int .i64 m ∧ v = .slice (some ⟨wc.heap.size, 0, none⟩) (m + 1) (Z.length + 1) ∧ wr.ownsRow wc.heap.size 23 1 (.slice (some ⟨wc.heap.size, 0, none⟩) (m + 1) (Z.length + 1)) (m + 1) (U (mid Z key k m)) ∧ Below wc.heap.size wc wr)
          (fun _ j _ => Z.length - (intOf j).toNat)
        case atStart => exact ⟨k, Nat.le_refl _, by omega, rfl, rfl, by rw [mid_start]; exact HO2.out, HB2⟩
        case round =>
          obtain ⟨m, hkm, hm, rfl, rfl, hown, hbel⟩ := hrel
          clear HO2 HB2
          by_cases hlt2 : m < Z.length
          · obtain ⟨g, hg, rfl, hcell⟩ := HK.out.resolve_left (by rintro rfl; simp at hlt2)
            obtain ⟨x, hx⟩ : ∃ x, Z.getD m 0 = x := ⟨_, rfl⟩
            have hcx : wr.cell? ⟨g, m, none⟩ = some (.int .u64 x) := by rw [hbel.cell (by exact hg), hcell m (by omega), hx]
            have HX : Hid (Z.getD m 0 = x) := hx
            clear hx hcell
            go_wp2_with (at_builtin; refine wpList_append_fits _ rfl _ _ 22 rfl wc.heap.size 23 i0 1 Try.underlying22 hi0 hz1 _ _ _ _ rfl (hown.alloc _) ⟨wr.heap.size, 0, none⟩ 1 1 [.int .u64 x] rfl rfl (cell_one_new _ _ _) (by simp [Value.oneCell']) (by omega) ?_)
            intro w3 hown2 hgr2
            have R := step (Nat.le_refl _) hbel hown2 hgr2
            rw [← HX.out, ← mid_succ Z key k m hkm (by omega)] at R
            have HR : Hid _ := R
            clear hown2 hgr2 R hown hcx
            go_wp2
            go_roundw
            case rel => exact ⟨m + 1, by omega, by omega, by go_num, rfl, HR.out.1, HR.out.2⟩
            case measure => simp [intOf]; omega
          · obtain rfl : m = Z.length := by omega
            obtain ⟨hIl, hIr⟩ := reads_own hown
            have hIk : has (mid Z key k Z.length) key = true := by rw [has_mid]; simp
            have HI : Hid (has (mid Z key k Z.length) other = (has Z other || (key == other))) := has_mid Z key other k
            have HW : Hid (has Z other = (has (Z.take i) other || has (Z.drop i) other)) := by show _ = _; rw [← has_append, List.take_append_drop]
            have hZr : Reads wr a Z := HK.out.imp_right fun ⟨g, hg, ha, hc⟩ => ⟨g, 0, ha, fun j hj => by rw [Nat.zero_add, hbel.cell (by exact hg)]; exact hc j hj⟩
            have HZR : Hid (Reads wr a Z) := hZr
            have HIR : Hid (Reads wr (some ⟨wc.heap.size, 0, none⟩) (mid Z key k Z.length)) := hIr
            have HIK : Hid (has (mid Z key k Z.length) key = true) := hIk
            have HIL : Hid ((mid Z key k Z.length).length = Z.length + 1) := hIl
            have HB : Hid (Below w.heap.size w wr) := hb.trans (hbel.mono hb.size)
            clear hown hZr hIr hIk hIl hbel
            go_wp2_with fail
            refine (zznamed (mid Z key k Z.length) _ _ _ key _ HIL.out (by omega) HIR.out).mono ?_
            rintro e w' ⟨rfl, rfl⟩
            rw [HIK.out]
            go_wp2_with fail
            refine (zznamed Z _ _ _ other _ rfl (by omega) HZR.out).mono ?_
            rintro e w' ⟨rfl, rfl⟩
            go_wp2_with fail
            refine (zznamed (mid Z key k Z.length) _ _ _ other _ HIL.out (by omega) HIR.out).mono ?_
            rintro e w' ⟨rfl, rfl⟩
            rw [HI.out]
            generalize has Z other = bw at *
            generalize hek : (key == other) = ek at *
            have hek' : (other == key) = ek := by rw [Bool.beq_comm]; exact hek
            clear hek
            cases bw <;> cases ek
            all_goals go_wp2_with fail
            all_goals
              refine (zznamed (Z.take i) _ _ _ other _ (by simp; omega) (by omega) (reads_take i HZR.out)).mono ?_
              rintro e w' ⟨rfl, rfl⟩
              go_wp2_with fail
            all_goals
              refine (zznamed (Z.drop i) _ _ _ other _ (by have := List.length_drop (l := Z) (i := i); omega) (by omega) (reads_drop i HZR.out (by intro h; first | rfl | omega) hi)).mono ?_
              rintro e w' ⟨rfl, rfl⟩
              have HW2 := HW
              generalize has (Z.take i) other = bl at *
              generalize has (Z.drop i) other = br at *
              clear HW HZR HIR HI HIK HIL HK
              cases bl <;> cases br
            all_goals first
              | (exfalso; have := HW2.out; simp at this; done)
              | (go_wp2; go_ret; exact ⟨rfl, HB.out⟩)

/-- The ways that leave early. -/
theorem ins_early (a0 : Option Addr) (len cap0 : Nat) (key other p i : Int) (w : World) (hl : len ≤ 9223372036854775807)
    (h : 65536 < len ∨ (len ≤ 65536 ∧ ¬ (0 ≤ p ∧ p ≤ len)) ∨ (len ≤ 65536 ∧ (0 ≤ p ∧ p ≤ len) ∧ ¬ (0 ≤ i ∧ i ≤ len))) :
    Calls Try.prog 3 #[.slice a0 len cap0, .int .u64 key, .int .u64 other, .int .i64 p, .int .i64 i] w fun e w' => e = .returned (.bool true) ∧ Below w.heap.size w w' := by
  rcases h with h | ⟨h1, h2⟩ | ⟨h1, h2, h3⟩
  · by_cases hd : len ≤ 1048576
    · have hd' : decide (len ≤ 1048576) = true := by simp; omega
      clear hd
      go_enter Try.func3, Try.ntmps3
      go_wp2_with (go_at_call 5; refine (bytes5 _ _ _ _ _ _ _ _ (by omega)).mono ?_; rintro e w' ⟨rfl, rfl⟩; rw [hd'])
      go_ret
      exact ⟨rfl, Below.refl _ _⟩
    · have hd' : decide (len ≤ 1048576) = false := by simp; omega
      clear hd
      go_enter Try.func3, Try.ntmps3
      go_wp2_with (go_at_call 5; refine (bytes5 _ _ _ _ _ _ _ _ (by omega)).mono ?_; rintro e w' ⟨rfl, rfl⟩; rw [hd'])
      go_ret
      exact ⟨rfl, Below.refl _ _⟩
  · have hd' : decide (len ≤ 1048576) = true := by simp; omega
    by_cases h0 : p < 0
    · go_enter Try.func3, Try.ntmps3
      go_wp2_with (go_at_call 5; refine (bytes5 _ _ _ _ _ _ _ _ (by omega)).mono ?_; rintro e w' ⟨rfl, rfl⟩; rw [hd'])
      go_ret
      exact ⟨rfl, Below.refl _ _⟩
    · have h3 : (len : Int) < p := by omega
      go_enter Try.func3, Try.ntmps3
      go_wp2_with (go_at_call 5; refine (bytes5 _ _ _ _ _ _ _ _ (by omega)).mono ?_; rintro e w' ⟨rfl, rfl⟩; rw [hd'])
      go_ret
      exact ⟨rfl, Below.refl _ _⟩
  · have hd' : decide (len ≤ 1048576) = true := by simp; omega
    obtain ⟨h4, h5⟩ := h2
    by_cases h0 : i < 0
    · go_enter Try.func3, Try.ntmps3
      go_wp2_with (go_at_call 5; refine (bytes5 _ _ _ _ _ _ _ _ (by omega)).mono ?_; rintro e w' ⟨rfl, rfl⟩; rw [hd'])
      go_ret
      exact ⟨rfl, Below.refl _ _⟩
    · have h3 : (len : Int) < i := by omega
      go_enter Try.func3, Try.ntmps3
      go_wp2_with (go_at_call 5; refine (bytes5 _ _ _ _ _ _ _ _ (by omega)).mono ?_; rintro e w' ⟨rfl, rfl⟩; rw [hd'])
      go_ret
      exact ⟨rfl, Below.refl _ _⟩
end Go.Proofs.Qxb6618469a
