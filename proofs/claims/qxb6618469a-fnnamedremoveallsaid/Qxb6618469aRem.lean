import Derived.Test.Qxb6618469aParts
namespace Go.Proofs.Qxb6618469a
open Go.RowKit

/-- Of the first k numbers those that are not 'key'. -/
def rem (Z : List Int) (key : Int) (k : Nat) : List Int := (Z.take k).filter fun x => !(x == key)
theorem rem_length (Z : List Int) (key : Int) (k : Nat) : (rem Z key k).length ≤ k := by
  unfold rem
  exact Nat.le_trans (List.length_filter_le _ _) (List.length_take_le _ _)
theorem rem_keep (Z : List Int) (key x : Int) (k : Nat) (h : k < Z.length) (hx : Z.getD k 0 = x) (hne : (x == key) = false) : rem Z key (k + 1) = rem Z key k ++ [x] := by
  unfold rem
  rw [take_succ Z k h, List.filter_append, hx]
  simp [hne]
theorem rem_drop (Z : List Int) (key x : Int) (k : Nat) (h : k < Z.length) (hx : Z.getD k 0 = x) (hne : (x == key) = true) : rem Z key (k + 1) = rem Z key k := by
  unfold rem
  rw [take_succ Z k h, List.filter_append, hx]
  simp [hne]
theorem rem_all (Z : List Int) (key : Int) : rem Z key Z.length = Z.filter fun x => !(x == key) := by
  unfold rem
  rw [List.take_of_length_le (Nat.le_refl _)]
theorem has_rem_key (Z : List Int) (key : Int) : has (rem Z key Z.length) key = false := by
  rw [rem_all]
  simp [has]
theorem has_rem_other (Z : List Int) (key o : Int) (h : (o == key) = false) : has (rem Z key Z.length) o = has Z o := by
  rw [rem_all]
  unfold has
  rw [Bool.eq_iff_iff]
  simp at h
  simp [h]
theorem rem_len (Z : List Int) (key : Int) : has Z key = (((rem Z key Z.length).length : Int) != (Z.length : Int)) := by
  rw [rem_all]
  have e : (Z.filter fun x => !(x == key)).length = Z.length ↔ has Z key = false := by
    rw [List.length_filter_eq_length_iff]
    unfold has
    simp
    constructor
    · intro h hm
      exact h key hm rfl
    · rintro h x hx rfl
      exact h hx
  cases hb : has Z key with
  | true =>
    symm
    rw [bne_iff_ne]
    intro h
    have := e.1 (by omega)
    rw [hb] at this
    cases this
  | false =>
    have := e.2 hb
    rw [this]
    simp

set_option maxRecDepth 100000 in
set_option maxHeartbeats 1000000 in
theorem rem_walk (a0 : Option Addr) (cap0 : Nat) (Z : List Int) (key other : Int) (w : World) (hn : Z.length ≤ 65536)
    (hnil : a0 = none → Z = [] ∧ cap0 = 0) (hr : ∀ x, a0 = some x → ∀ j, j < Z.length → w.cell? (x.add j) = some (.int .u64 (Z.getD j 0))) :
    Calls Try.prog 4 #[.slice a0 Z.length cap0, .int .u64 key, .int .u64 other] w fun e w' => e = .returned (.bool true) ∧ Below w.heap.size w w' := by
  have HR : Hid (∀ x, a0 = some x → ∀ j, j < Z.length → w.cell? (x.add j) = some (.int .u64 (Z.getD j 0))) := hr
  have HN : Hid (a0 = none → Z = [] ∧ cap0 = 0) := hnil
  clear hr hnil
  have hneq := fun (wx : World) => run_neq_slice_nil_any (P := Try.prog) wx 22 23 a0 Z.length cap0 0 0 Try.underlying22
  obtain ⟨i0, hi0, hz0, hz1, hz2⟩ := info_parts Try.info23
  have hd : decide (Z.length ≤ 1048576) = true := by simp; omega
  go_enter Try.func4, Try.ntmps4
  go_upto_if 19 with (go_at_call 7; refine (bytes7 _ _ _ _ _ _ (by omega)).mono ?_; rintro e w' ⟨rfl, rfl⟩; rw [hd])
  go_cut [0] (fun v wr => Kept wr.heap.size wr v Z ∧ Below w.heap.size w wr)
  case first =>
    clear hd hneq
    cases a0 with
    | none =>
      obtain ⟨hZ, hc0⟩ := HN.out rfl
      subst hZ hc0
      go_wp2
      go_meet
      case rel => exact ⟨⟨none, rfl, .inl rfl⟩, Below.refl _ _⟩
    | some x =>
      go_wp2_with (at_make; refine wpList_make_full _ rfl _ _ 22 rfl w.heap.size 23 i0 (.int .u64 0) 1 Try.underlying22 hi0 hz0 hz1 _ _ _ _ Z.length rfl rfl rfl rfl (by rw [hz2]; omega) (by unfold maxLen; omega) (Nat.le_refl _) ?_)
      intro w1 hown hgr
      obtain ⟨cur, hcur, hcl⟩ := full_block hown
      have HB1 : Below w.heap.size w w1 := (Below.refl _ _).grown hgr (Nat.le_refl _) (by simp)
      have hcx : ∀ j, j < Z.length → w1.cell? (x.add j) = some (.int .u64 (Z.getD j 0)) := fun j hj => hgr.cell (HR.out x rfl j hj) (by simp)
      have HX : Hid (∀ j, j < Z.length → w1.cell? (x.add j) = some (.int .u64 (Z.getD j 0))) := hcx
      have HL : Hid (cur.length = Z.length) := hcl
      clear hcx hcl hown hgr
      go_wp2_with (refine wpList_copy_splice rfl (.tmp 23) (.tmp 24) 22 22 rfl 23 Try.underlying22 Try.size23 _ _ _ _ _ _ rfl rfl w.heap.size 0 cur 23 hcur (U Z) (by simp [U]) (fun _ => ⟨rfl, copy_pos rfl HX.out⟩) (by simp [U, HL.out]) (U_one Z) w.heap.size w HB1 (Nat.le_refl _) ?_)
      intro w2 HG HB2
      rw [splice_all (by simp [U, HL.out])] at HG
      have hlt : w.heap.size < w2.heap.size := (Array.getElem?_eq_some_iff.1 HG.out).1
      have HK : Hid (Kept w2.heap.size w2 (.slice (some ⟨w.heap.size, 0, none⟩) Z.length Z.length) Z) := kept_mk HG.out hlt
      clear HG HX HL hcur
      go_wp2
      go_meet
      case rel => exact ⟨HK.out, HB2⟩
  case rest =>
    obtain ⟨⟨a, rfl, hk⟩, hb⟩ := hcut
    clear hd hneq HR HN
    have HK : Hid (Z = [] ∨ ∃ g, g < wc.heap.size ∧ a = some ⟨g, 0, none⟩ ∧ ∀ j, j < Z.length → wc.cell? ⟨g, j, none⟩ = some (.int .u64 (Z.getD j 0))) := hk
    clear hk
    go_wp2_with (at_make; refine wpList_make_own _ rfl _ _ 22 rfl wc.heap.size 23 i0 (.int .u64 0) 1 Try.underlying22 hi0 hz0 hz1 _ _ _ Z.length rfl rfl rfl (by rw [hz2]; omega) (by unfold maxLen; omega) (Nat.le_refl _) ?_)
    intro w1 hown hgr
    have HB1 : Below wc.heap.size wc w1 := (Below.refl _ _).grown hgr (Nat.le_refl _) (by simp)
    have HO : Hid (w1.ownsRow wc.heap.size 23 1 (.slice (some ⟨wc.heap.size, 0, none⟩) 0 Z.length) 0 []) := hown
    clear hown hgr
    go_wp2
    go_loopw [8, 9] (fun v j wr => ∃ k r : Nat, k ≤ Z.length ∧ r ≤ k ∧ (rem Z key k).length = r ∧ j = .int .i64 k ∧ v = .slice (some ⟨wc.heap.size, 0, none⟩) r Z.length ∧ wr.ownsRow wc.heap.size 23 1 (.slice (some ⟨wc.heap.size, 0, none⟩) r Z.length) r (U (rem Z key k)) ∧ Below wc.heap.size wc wr)
      (fun _ j _ => Z.length - (intOf j).toNat)
    case atStart => exact ⟨0, 0, Nat.zero_le _, Nat.le_refl _, rfl, rfl, rfl, HO.out, HB1⟩
    case round =>
      obtain ⟨k, r, hk, hrk, hrl, rfl, rfl, hown, hbel⟩ := hrel
      have HRL : Hid ((rem Z key k).length = r) := hrl
      clear HO HB1 hrl
      by_cases hlt : k < Z.length
      · obtain ⟨g, hg, rfl, hcell⟩ := HK.out.resolve_left (by rintro rfl; simp at hlt)
        obtain ⟨x, hx⟩ : ∃ x, Z.getD k 0 = x := ⟨_, rfl⟩
        have hcx : wr.cell? ⟨g, k, none⟩ = some (.int .u64 x) := by rw [hbel.cell (by exact hg), hcell k (by omega), hx]
        have HX : Hid (Z.getD k 0 = x) := hx
        clear hx hcell
        cases hq : (x == key) with
        | true =>
          have hq' : (x != key) = false := by simp [bne, hq]
          have HR1 := rem_drop Z key x k hlt HX.out hq
          have HR2 : Hid (rem Z key (k + 1) = rem Z key k) := HR1
          clear hq HR1
          go_wp2
          go_roundw
          case rel => exact ⟨k + 1, r, by omega, by omega, by rw [HR2.out]; exact HRL.out, by go_num, rfl, by rw [HR2.out]; exact hown, hbel⟩
          case measure => simp [intOf]; omega
        | false =>
          have hq' : (x != key) = true := by simp [bne, hq]
          have HR1 := rem_keep Z key x k hlt HX.out hq
          have HR2 : Hid (rem Z key (k + 1) = rem Z key k ++ [x]) := HR1
          clear hq HR1
          go_wp2_with (at_builtin; refine wpList_append_fits _ rfl _ _ 22 rfl wc.heap.size 23 i0 1 Try.underlying22 hi0 hz1 _ _ _ _ rfl (hown.alloc _) ⟨wr.heap.size, 0, none⟩ 1 1 [.int .u64 x] rfl rfl (cell_one_new _ _ _) (by simp [Value.oneCell']) (by omega) ?_)
          intro w2 hown2 hgr2
          have R := step (Nat.le_refl _) hbel hown2 hgr2
          rw [← HR2.out] at R
          have HR : Hid _ := R
          clear hown2 hgr2 R hown hcx
          go_wp2
          go_roundw
          case rel => exact ⟨k + 1, r + 1, by omega, by omega, by rw [HR2.out, List.length_append, HRL.out]; rfl, by go_num, rfl, HR.out.1, HR.out.2⟩
          case measure => simp [intOf]; omega
      · obtain rfl : k = Z.length := by omega
        obtain ⟨hIl, hIr⟩ := reads_own hown
        have HIR : Hid (Reads wr (some ⟨wc.heap.size, 0, none⟩) (rem Z key Z.length)) := hIr
        have hZr : Reads wr a Z := HK.out.imp_right fun ⟨g, hg, ha, hc⟩ => ⟨g, 0, ha, fun j hj => by rw [Nat.zero_add, hbel.cell (by exact hg)]; exact hc j hj⟩
        have HZR : Hid (Reads wr a Z) := hZr
        have HB : Hid (Below w.heap.size w wr) := hb.trans (hbel.mono hb.size)
        have HL : Hid (has Z key = ((r : Int) != (Z.length : Int))) := by have := rem_len Z key; rw [HRL.out] at this; exact this
        clear hown hZr hIr hIl hbel hb
        go_wp2_with fail
        refine (zznamed (rem Z key Z.length) _ _ _ key _ HRL.out (by omega) HIR.out).mono ?_
        rintro e w' ⟨rfl, rfl⟩
        rw [has_rem_key]
        go_wp2_with fail
        refine (zznamed Z _ _ _ key _ rfl (by omega) HZR.out).mono ?_
        rintro e w' ⟨rfl, rfl⟩
        rw [HL.out]
        clear HL
        generalize hq : ((r : Int) != (Z.length : Int)) = q
        cases hok : (other == key) with
        | true =>
          have hok' : (other != key) = false := by simp [bne, hok]
          clear hok HK HIR HZR HRL
          cases q
          all_goals (go_wp2; go_ret; exact ⟨rfl, HB.out⟩)
        | false =>
          have hok' : (other != key) = true := by simp [bne, hok]
          have HO := has_rem_other Z key other hok
          have HO2 : Hid (has (rem Z key Z.length) other = has Z other) := HO
          clear hok HK HO
          cases q
          all_goals
            go_wp2_with fail
            refine (zznamed (rem Z key Z.length) _ _ _ other _ HRL.out (by omega) HIR.out).mono ?_
            rintro e w' ⟨rfl, rfl⟩
            go_wp2_with fail
            refine (zznamed Z _ _ _ other _ rfl (by omega) HZR.out).mono ?_
            rintro e w' ⟨rfl, rfl⟩
            rw [HO2.out]
            generalize has Z other = q2
            clear HO2 HIR HZR HRL
            cases q2
          all_goals (go_wp2; go_ret; exact ⟨rfl, HB.out⟩)

/-- The ways that leave early. -/
theorem rem_early (a0 : Option Addr) (len cap0 : Nat) (key other : Int) (w : World) (hl : len ≤ 9223372036854775807) (h : 65536 < len) :
    Calls Try.prog 4 #[.slice a0 len cap0, .int .u64 key, .int .u64 other] w fun e w' => e = .returned (.bool true) ∧ Below w.heap.size w w' := by
  by_cases hd : len ≤ 1048576
  · have hd' : decide (len ≤ 1048576) = true := by simp; omega
    clear hd
    go_enter Try.func4, Try.ntmps4
    go_wp2_with (go_at_call 7; refine (bytes7 _ _ _ _ _ _ (by omega)).mono ?_; rintro e w' ⟨rfl, rfl⟩; rw [hd'])
    go_ret
    exact ⟨rfl, Below.refl _ _⟩
  · have hd' : decide (len ≤ 1048576) = false := by simp; omega
    clear hd
    go_enter Try.func4, Try.ntmps4
    go_wp2_with (go_at_call 7; refine (bytes7 _ _ _ _ _ _ (by omega)).mono ?_; rintro e w' ⟨rfl, rfl⟩; rw [hd'])
    go_ret
    exact ⟨rfl, Below.refl _ _⟩
end Go.Proofs.Qxb6618469a
