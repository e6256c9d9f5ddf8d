/-
  THE PROOF OF 'Rows.FnClosenessGaugeCandidatePutInAnywhereSaid'. The frame is the guide's, at two slices of floats and one integer; the walk is in Qxb6619316aGauge.lean, the early ways in Qxb6619316aGaugeEarly.lean, the plain law in Qxb6619316aGaugeLaw.lean.
-/
import Derived.Test.Qxb6619316aRows
import Derived.Test.Qxb6619316aGauge
import Derived.Test.Qxb6619316aGaugeEarly
import Derived.Test.Qxb6619316aFloats
import Derived.WalkKit
import Derived.ProofKit
import Derived.OpenShut
import Derived.ShutString
import Derived.ChangeOld
import Derived.Below
namespace Go.Proofs.Qxb6619316a.fnClosenessGaugeCandidatePutInAnywhere
open Go.ChangeShapes Go.WideShapes Go.ChangeAt Go.RowKit
set_option linter.unusedVariables false

theorem own : ownKnob Try.prog.godebug = none := by kernel_rfl
theorem laidOut : laidOutB Try.prog = true := by kernel_rfl

theorem walk (a0 a1 : Option Addr) (len0 cap0 len1 cap1 : Nat) (A B : List Nat) (i : Int) (w : World) (e0 : A.length = len0) (e1 : B.length = len1) (m0 : len0 ≤ 9223372036854775807) (m1 : len1 ≤ 9223372036854775807)
    (h0 : CameIn w a0 cap0 A) (h1 : CameIn w a1 cap1 B) (wi : (Lit.int .i64 i).wf = true) :
    Calls Try.prog 5 #[.slice a0 len0 cap0, .slice a1 len1 cap1, .int .i64 i] w fun e w' => e = .returned (.bool true) ∧ Below w.heap.size w w' := by
  have bi : -9223372036854775808 ≤ i ∧ i ≤ 9223372036854775807 := by simpa [Lit.wf, IntKind.min, IntKind.max, IntKind.bits, IntKind.signed] using wi
  subst e0 e1
  by_cases c0 : A.length ≤ 65536
  · by_cases c1 : B.length ≤ 65536
    · exact gauge_walk A B a0 a1 cap0 cap1 i w c0 c1 bi.1 bi.2 h0 h1
    · exact gauge_early a0 a1 _ _ cap0 cap1 i w m0 m1 (.inr ⟨c0, by omega⟩)
  · exact gauge_early a0 a1 _ _ cap0 cap1 i w m0 m1 (.inl (by omega))

/-! ### THE ROW's STEP -/
set_option maxRecDepth 100000 in
theorem lifted (os : Os) (started : os.Started) (H : Type) (enc : TypeId × Value → H) :
    ReturnsInHanded {} Try.checked os 5 .any (Rows.fnClosenessGaugeCandidatePutInAnywhereSpec.pre6 enc Try.prog Try.f5 Rows.fnClosenessGaugeCandidatePutInAnywhereRow.domain false) (Rows.fnClosenessGaugeCandidatePutInAnywhereSpec.post enc Try.prog Try.f5 false true false false) := by
  refine returnsInHanded_of_change (C := Try.checked) own started (by kernel_rfl) Try.func5
    (ChangeSpec.witness6 (enc := enc) (C := Try.checked) false ⟨#[], #[.slice none 0 0, .slice none 0 0, .int .i64 0], []⟩ 8 (by kernel_rfl) (by kernel_rfl) (by kernel_rfl) (by kernel_rfl)) ?_
  intro W base args ds gs before hval0 hW hcnd _
  have hval : ∀ (j : Nat) t v, Try.f5.params[j]? = some t → args[j]? = some v → Value.okWide Try.prog W .any base t v := hval0
  have hW' := hW
  obtain ⟨p, q, hA0, hV, rfl, hfz, hnd⟩ := hW
  have hA : DataW.TrodAll enc Try.prog W 0 (fun _ => true) true Try.f5.params.toList args.toList ds p := hA0
  rw [Try.params5] at hA hval
  obtain ⟨v0, vs0, d0, ds0, p0, q0, hargs, rfl, rfl, h0, r0⟩ := trodAll_cons hA
  obtain ⟨v1, vs1, d1, ds1, p1, q1, rfl, rfl, rfl, h1, r1⟩ := trodAll_cons r0
  obtain ⟨v2, vs2, d2, ds2, p2, q2, rfl, rfl, rfl, h2, r2⟩ := trodAll_cons r1
  obtain ⟨rfl, rfl, rfl⟩ := trodAll_nil r2
  obtain rfl : args = #[v0, v1, v2] := by cases args; simp_all
  obtain ⟨rfl, rfl⟩ := trodVars_none hV
  obtain ⟨a0, len0, cap0, rfl⟩ := okWide_slice Try.underlying24 (hval 0 24 v0 rfl rfl)
  have k0 := h0
  have lt0 : ∀ x ∈ p0, x.block < W.heap.size := by obtain ⟨m, hm⟩ := k0; exact DataW.trod_lt m _ _ _ hm
  obtain ⟨A, e0, m0, w0⟩ : ∃ Z : List Nat, Z.length = len0 ∧ len0 ≤ 9223372036854775807 ∧ CameIn W a0 cap0 Z := by
    obtain ⟨fuel, hf⟩ := h0
    exact open_floats Try.underlying24 Try.underlying28 (by kernel_rfl) (by simpa [Value.cells] using hf)
  obtain ⟨a1, len1, cap1, rfl⟩ := okWide_slice Try.underlying24 (hval 1 24 v1 rfl rfl)
  have k1 := h1
  have lt1 : ∀ x ∈ p1, x.block < W.heap.size := by obtain ⟨m, hm⟩ := k1; exact DataW.trod_lt m _ _ _ hm
  obtain ⟨B, e1, m1, w1⟩ : ∃ Z : List Nat, Z.length = len1 ∧ len1 ≤ 9223372036854775807 ∧ CameIn W a1 cap1 Z := by
    obtain ⟨fuel, hf⟩ := h1
    exact open_floats Try.underlying24 Try.underlying28 (by kernel_rfl) (by simpa [Value.cells] using hf)
  obtain ⟨i, rfl, rfl, rfl, w2⟩ := open_int Try.underlying3 (hval 2 3 v2 rfl rfl) h2
  clear hA0 hval0
  refine (walk a0 a1 len0 cap0 len1 cap1 A B i W e0 e1 m0 m1 w0 w1 w2).mono fun e W' ⟨he, bel⟩ => ?_
  subst he
  exact ⟨_, rfl, _, _, _, [], _, [], hW', trodAll_mk1 (shut_bool Try.underlying4 _), (trodAll_cons_mk (Below.trod laidOut (by kernel_rfl) (of_decide_eq_true (by kernel_rfl)) k0 bel lt0) (trodAll_cons_mk (Below.trod laidOut (by kernel_rfl) (of_decide_eq_true (by kernel_rfl)) k1 bel lt1) (trodAll_cons_mk (shut_int Try.underlying3 w2) trodAll_mk0))), rfl, bel.frame _, fun h => by cases h⟩

theorem over : Rows.fnClosenessGaugeCandidatePutInAnywhereRow.holds Try.pinned (OpenSpec.ofChange Rows.fnClosenessGaugeCandidatePutInAnywhereSpec) :=
  OpenClaim.holds_of_wide 5 Try.f5 rfl rfl rfl rfl rfl rfl rfl ⟨rfl, rfl, rfl, rfl, rfl⟩ rfl rfl rfl rfl rfl (by kernel_rfl) Try.func5 (by kernel_rfl)
    (of_decide_eq_true (by kernel_rfl)) (by unfold Func.isWrapper; first | (rw [if_pos (by decide +kernel)]; kernel_rfl) | (rw [if_neg (by decide +kernel)]; exact ⟨rfl, rfl⟩))
    (fun os started H enc _ => lifted os started H enc)

/-- ████ THE STATEMENT ████ -/
theorem proved : Rows.FnClosenessGaugeCandidatePutInAnywhereSaid := over
#print axioms proved
end Go.Proofs.Qxb6619316a.fnClosenessGaugeCandidatePutInAnywhere
