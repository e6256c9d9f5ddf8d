/-
  THE WALKS of the alias share: each Go function on the road computes what the plain law names.
-/
import Derived.Test.Qxb6619290aRows
import Derived.Test.Qxb6619290aLaw
import Derived.WalkKit
import Derived.ProofKit
import Derived.OpenShut
import Derived.WalkLawsBesides
import Derived.Below
import Derived.Deep.DeepCutAuto
import Derived.Handy
import Derived.WalkSpells
namespace Go.Proofs.Qxb6619290a
open Go.RowKit
open Fl (share mid)

theorem ret_float {a b : Nat} (h : a = b) : Ending.returned (.float .f64 a) = .returned (.float .f64 b) := by rw [h]

set_option maxRecDepth 100000 in
theorem alias_any (n : Int) (w : World) (hlo : -9223372036854775808 ≤ n) (hhi : n ≤ 9223372036854775807) :
    Calls Try.prog 6 #[.int .i64 n] w fun e w' => e = .returned (.float .f64 (share n)) ∧ w = w' := by
  by_cases h1 : n ≤ 400000
  · have hs : Hid (4607092346807469998 = share n) := by show _ = _; unfold share; rw [if_pos h1]
    go_enter Try.func6, Try.ntmps6
    go_wp2
    go_ret
    exact ⟨ret_float hs.out, rfl⟩
  · by_cases h2 : 4000000 ≤ n
    · have hs : Hid (4591870180066957722 = share n) := by show _ = _; unfold share; rw [if_neg h1, if_pos h2]
      go_enter Try.func6, Try.ntmps6
      go_wp2
      go_ret
      exact ⟨ret_float hs.out, rfl⟩
    · have hs : Hid (mid n = share n) := by show _ = _; unfold share; rw [if_neg h1, if_neg h2]
      obtain ⟨r1, r2, r3, r4, e1, e2, e3, e4, e5, _⟩ := Fl.mid_words n (by omega) (by omega)
      have f1 : floatOfInt .f64 (n - 400000) = r1 := e1
      have f2 := fun wx => run_float_arith (P := Try.prog) wx .mul 22 .f64 4606191626881995899 r1 r2 e2
      have f3 := fun wx => run_float_arith (P := Try.prog) wx .quo 22 .f64 r2 4704985352480227328 r3 e3
      have f4 := fun wx => run_float_arith (P := Try.prog) wx .sub 22 .f64 4607092346807469998 r3 r4 e4
      have HE : Hid (mid n = r4) := e5
      clear e1 e2 e3 e4 e5
      go_enter Try.func6, Try.ntmps6
      go_wp2
      go_ret
      exact ⟨ret_float (by rw [← hs.out, HE.out]), rfl⟩

theorem zzalias (n : Int) (w : World) (hlo : -9223372036854775808 ≤ n) (hhi : n ≤ 9223372036854775807) :
    Calls Try.prog 4 #[.int .i64 n] w fun e w' => e = .returned (.float .f64 (share n)) ∧ w = w' := by
  have H := alias_any n w hlo hhi
  go_enter Try.func4, Try.ntmps4
  go_wp2_with fail
  refine H.mono ?_
  rintro e w' ⟨rfl, rfl⟩
  go_wp2
  go_ret
  exact ⟨rfl, rfl⟩

set_option maxRecDepth 100000 in
theorem within (f : Nat) (w : World) (h1 : 4591870180066957722 ≤ f) (h2 : f ≤ 4607092346807469998) :
    Calls Try.prog 5 #[.float .f64 f] w fun e w' => e = .returned (.bool true) ∧ w = w' := by
  have g1 : (FloatKind.f64.format.order f 4591870180066957722 == some .gt || FloatKind.f64.format.order f 4591870180066957722 == some .eq) = true := by
    by_cases e : f = 4591870180066957722
    · rw [show FloatKind.f64.format.order f 4591870180066957722 = some .eq from Fl.order_eq (by omega) e]; rfl
    · rw [show FloatKind.f64.format.order f 4591870180066957722 = some .gt from Fl.order_gt (by omega) (by omega) (by omega)]; rfl
  have g2 : (FloatKind.f64.format.order f 4607092346807469998 == some .lt || FloatKind.f64.format.order f 4607092346807469998 == some .eq) = true := by
    by_cases e : f = 4607092346807469998
    · rw [show FloatKind.f64.format.order f 4607092346807469998 = some .eq from Fl.order_eq (by omega) e]; rfl
    · rw [show FloatKind.f64.format.order f 4607092346807469998 = some .lt from Fl.order_lt (by omega) (by omega) (by omega)]; rfl
  clear h1 h2
  go_enter Try.func5, Try.ntmps5
  go_wp2
  go_ret
  exact ⟨rfl, rfl⟩

set_option maxRecDepth 100000 in
set_option maxHeartbeats 2000000 in
theorem law_walk (a b : Int) (w : World) (ha1 : -9223372036854775808 ≤ a) (ha2 : a ≤ 9223372036854775807) (hb1 : -9223372036854775808 ≤ b) (hb2 : b ≤ 9223372036854775807) :
    Calls Try.prog 3 #[.int .i64 a, .int .i64 b] w fun e w' => e = .returned (.bool true) ∧ w = w' := by
  obtain ⟨ra1, ra2⟩ := Fl.share_range a
  obtain ⟨rb1, rb2⟩ := Fl.share_range b
  have HRA : Hid (4591870180066957722 ≤ share a ∧ share a ≤ 4607092346807469998) := ⟨ra1, ra2⟩
  have HRB : Hid (4591870180066957722 ≤ share b ∧ share b ≤ 4607092346807469998) := ⟨rb1, rb2⟩
  clear ra1 ra2 rb1 rb2
  go_enter Try.func3, Try.ntmps3
  go_wp2_with fail
  refine (zzalias a _ ha1 ha2).mono ?_
  rintro e w' ⟨rfl, rfl⟩
  go_wp2_with fail
  refine (zzalias b _ hb1 hb2).mono ?_
  rintro e w' ⟨rfl, rfl⟩
  go_wp2_with fail
  refine (within (share a) _ HRA.out.1 HRA.out.2).mono ?_
  rintro e w' ⟨rfl, rfl⟩
  go_wp2_with fail
  refine (within (share b) _ HRB.out.1 HRB.out.2).mono ?_
  rintro e w' ⟨rfl, rfl⟩
  go_upto_region 5 with fail
  go_cut [26] (fun v wr => v = .bool false ∧ w = wr)
  case first =>
    by_cases h : a ≤ 400000
    · have g : (FloatKind.f64.format.order (share a) 4607092346807469998 != some .eq) = false := by
        rw [show FloatKind.f64.format.order (share a) 4607092346807469998 = some .eq from Fl.order_eq (by have := HRA.out; omega) (by unfold share; rw [if_pos h])]; rfl
      go_wp2
      go_meet
      case rel => exact ⟨rfl, rfl⟩
    · go_wp2
      go_meet
      case rel => exact ⟨rfl, rfl⟩
  case rest =>
  obtain ⟨rfl, rfl⟩ := hcut
  go_upto_region 7 with fail
  go_cut [32] (fun v wr => v = .bool false ∧ w = wr)
  case first =>
    by_cases h : b ≤ 400000
    · have g : (FloatKind.f64.format.order (share b) 4607092346807469998 != some .eq) = false := by
        rw [show FloatKind.f64.format.order (share b) 4607092346807469998 = some .eq from Fl.order_eq (by have := HRB.out; omega) (by unfold share; rw [if_pos h])]; rfl
      go_wp2
      go_meet
      case rel => exact ⟨rfl, rfl⟩
    · go_wp2
      go_meet
      case rel => exact ⟨rfl, rfl⟩
  case rest =>
  obtain ⟨rfl, rfl⟩ := hcut
  go_upto_region 9 with fail
  go_cut [38] (fun v wr => v = .bool false ∧ w = wr)
  case first =>
    by_cases h : 4000000 ≤ a
    · have g : (FloatKind.f64.format.order (share a) 4591870180066957722 != some .eq) = false := by
        rw [show FloatKind.f64.format.order (share a) 4591870180066957722 = some .eq from Fl.order_eq (by have := HRA.out; omega) (by unfold share; rw [if_neg (by omega), if_pos h])]; rfl
      go_wp2
      go_meet
      case rel => exact ⟨rfl, rfl⟩
    · go_wp2
      go_meet
      case rel => exact ⟨rfl, rfl⟩
  case rest =>
  obtain ⟨rfl, rfl⟩ := hcut
  go_upto_region 11 with fail
  go_cut [44] (fun v wr => v = .bool false ∧ w = wr)
  case first =>
    by_cases h : 4000000 ≤ b
    · have g : (FloatKind.f64.format.order (share b) 4591870180066957722 != some .eq) = false := by
        rw [show FloatKind.f64.format.order (share b) 4591870180066957722 = some .eq from Fl.order_eq (by have := HRB.out; omega) (by unfold share; rw [if_neg (by omega), if_pos h])]; rfl
      go_wp2
      go_meet
      case rel => exact ⟨rfl, rfl⟩
    · go_wp2
      go_meet
      case rel => exact ⟨rfl, rfl⟩
  case rest =>
  obtain ⟨rfl, rfl⟩ := hcut
  go_upto_region 13 with fail
  go_cut [52] (fun v wr => v = .bool false ∧ w = wr)
  case first =>
    by_cases h : a ≤ b
    · have g : (FloatKind.f64.format.order (share a) (share b) == some .lt) = false := by
        have hm := Fl.share_mono h
        have h1 := HRA.out
        have h2 := HRB.out
        by_cases e : share a = share b
        · rw [show FloatKind.f64.format.order (share a) (share b) = some .eq from Fl.order_eq (by omega) e]; rfl
        · rw [show FloatKind.f64.format.order (share a) (share b) = some .gt from Fl.order_gt (by omega) (by omega) (by omega)]; rfl
      go_wp2
      go_meet
      case rel => exact ⟨rfl, rfl⟩
    · go_wp2
      go_meet
      case rel => exact ⟨rfl, rfl⟩
  case rest =>
  obtain ⟨rfl, rfl⟩ := hcut
  go_upto_region 15 with fail
  go_cut [60] (fun v wr => v = .bool false ∧ w = wr)
  case first =>
    by_cases h : b ≤ a
    · have g : (FloatKind.f64.format.order (share b) (share a) == some .lt) = false := by
        have hm := Fl.share_mono h
        have h1 := HRA.out
        have h2 := HRB.out
        by_cases e : share b = share a
        · rw [show FloatKind.f64.format.order (share b) (share a) = some .eq from Fl.order_eq (by omega) e]; rfl
        · rw [show FloatKind.f64.format.order (share b) (share a) = some .gt from Fl.order_gt (by omega) (by omega) (by omega)]; rfl
      go_wp2
      go_meet
      case rel => exact ⟨rfl, rfl⟩
    · go_wp2
      go_meet
      case rel => exact ⟨rfl, rfl⟩
  case rest =>
  obtain ⟨rfl, rfl⟩ := hcut
  by_cases hin : 400000 ≤ a ∧ a ≤ 4000000 ∧ 400000 ≤ b ∧ b ≤ 4000000
  · obtain ⟨h1, h2, h3, h4⟩ := hin
    obtain ⟨p, want, d1, d, e1, e2, e3, e4, e5, e6⟩ := Fl.even_ok a b h1 h2 h3 h4
    obtain ⟨q, hq⟩ : ∃ q, floatOfInt .f64 (b - a) = q := ⟨_, rfl⟩
    have e1' : Ieee.double.mul 4606191626881995899 q = some p := by rw [← hq]; exact e1
    have f2 := fun wx => run_float_arith (P := Try.prog) wx .mul 22 .f64 4606191626881995899 q p e1'
    have f3 := fun wx => run_float_arith (P := Try.prog) wx .quo 22 .f64 p 4704985352480227328 want e2
    have f4 := fun wx => run_float_arith (P := Try.prog) wx .sub 22 .f64 (share a) (share b) d1 e3
    have f5 := fun wx => run_float_arith (P := Try.prog) wx .sub 22 .f64 d1 want d e4
    have g5 : (FloatKind.f64.format.order d 13650858631089744401 == some .lt) = false := e5
    have g6 : (FloatKind.f64.format.order d 4427486594234968593 == some .gt) = false := e6
    clear e1 e1' e2 e3 e4 e5 e6
    go_wp2
    go_ret
    exact ⟨rfl, rfl⟩
  · by_cases h1 : 400000 ≤ a
    · by_cases h2 : a ≤ 4000000
      · by_cases h3 : 400000 ≤ b
        · have h4 : ¬ b ≤ 4000000 := by omega
          clear hin
          go_wp2
          go_ret
          exact ⟨rfl, rfl⟩
        · clear hin
          go_wp2
          go_ret
          exact ⟨rfl, rfl⟩
      · clear hin
        go_wp2
        go_ret
        exact ⟨rfl, rfl⟩
    · clear hin
      go_wp2
      go_ret
      exact ⟨rfl, rfl⟩
end Go.Proofs.Qxb6619290a
