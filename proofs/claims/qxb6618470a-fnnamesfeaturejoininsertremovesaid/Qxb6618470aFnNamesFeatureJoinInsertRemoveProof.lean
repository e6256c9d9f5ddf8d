/-
  THE PROOF OF 'Rows.FnNamesFeatureJoinInsertRemoveSaid'. The frame is the guide's, at two slices of strings and three strings; the walk is in Qxb6618470aMain.lean, the early ways in Qxb6618470aEarly.lean.
-/
import Derived.Test.Qxb6618470aRows
import Derived.Test.Qxb6618470aMain
import Derived.Test.Qxb6618470aEarly
import Derived.WalkKit
import Derived.ProofKit
import Derived.OpenShut
import Derived.ShutString
import Derived.SliceStrings
import Derived.ChangeOld
import Derived.Below
namespace Go.Proofs.Qxb6618470a.fnNamesFeatureJoinInsertRemove
open Go.ChangeShapes Go.WideShapes Go.ChangeAt Go.RowKit
open Go.ChangeMaps (open_string shut_string)
set_option linter.unusedVariables false

theorem own : ownKnob Try.prog.godebug = none := by kernel_rfl
theorem laidOut : laidOutB Try.prog = true := by kernel_rfl

/-- What the walk is told of a slice of strings that came in. -/
def IsRow (w : World) (a : Option Addr) (len cap : Nat) (S : List ByteArray) : Prop :=
  S.length = len ∧ len ≤ 9223372036854775807 ∧ Reads w.heap.size w a S ∧ ∀ s ∈ S, s.size ≤ 9223372036854775807

theorem isRow_of {w : World} {x : Addr} {len cap : Nat} {ss : List ByteArray} (hl : len ≤ cap) (hm : cap ≤ maxLen) (hz : ss.length = cap)
    (hcell : ∀ i, i < ss.length → w.cell? (x.add i) = some (.string (ss.getD i ByteArray.empty))) (hws : ∀ s ∈ ss, s.size ≤ maxLen) : IsRow w (some x) len cap (ss.take len) := by
  have hlen : (ss.take len).length = len := by simp; omega
  refine ⟨hlen, by unfold maxLen at hm; omega, ?_, fun s hs => by have := hws s (List.mem_of_mem_take hs); unfold maxLen at this; omega⟩
  by_cases h0 : len = 0
  · exact .inl (by subst h0; simp)
  · obtain ⟨b, off, spot⟩ := x
    have hspot : spot = none := by simpa [Addr.add] using World.cell?_spot (hcell 0 (by omega))
    subst hspot
    have hb : b < w.heap.size := by
      have h := hcell 0 (by omega)
      rw [Go.WideShapes.add_plain] at h
      simp only [World.cell?] at h
      by_cases hlt : b < w.heap.size
      · exact hlt
      · rw [Array.getElem?_eq_none (by omega)] at h
        simp at h
    refine .inr ⟨b, off, rfl, hb, fun j hj => ?_⟩
    rw [← Go.WideShapes.add_plain, hcell j (by omega)]
    simp [List.getD, show j < len from by omega]

theorem walk (d id sha : ByteArray) (a0 a1 : Option Addr) (len0 cap0 len1 cap1 : Nat) (A B : List ByteArray) (w : World) (h0 : IsRow w a0 len0 cap0 A) (h1 : IsRow w a1 len1 cap1 B)
    (hd : d.size ≤ maxLen) (hid : id.size ≤ maxLen) (hsha : sha.size ≤ maxLen) :
    Calls Try.prog 3 #[.string d, .slice a0 len0 cap0, .slice a1 len1 cap1, .string id, .string sha] w fun e w' => e = .returned (.bool true) ∧ Below w.heap.size w w' := by
  obtain ⟨rfl, la, ra, sa⟩ := h0
  obtain ⟨rfl, lb, rb, sb⟩ := h1
  unfold maxLen at hd hid hsha
  by_cases hs : d.size + id.size + sha.size ≤ 1048576
  · exact main_walk d id sha a0 a1 A B cap0 cap1 w la lb ra rb hs sa sb
  · exact early d id sha a0 a1 A B cap0 cap1 w la lb ra rb (by omega) (by omega) (by omega) hs sa sb

/-! ### THE ROW's STEP -/
set_option maxRecDepth 100000 in
theorem lifted (os : Os) (started : os.Started) (H : Type) (enc : TypeId × Value → H) :
    ReturnsInHanded {} Try.checked os 3 .any (Rows.fnNamesFeatureJoinInsertRemoveSpec.pre6 enc Try.prog Try.f3 Rows.fnNamesFeatureJoinInsertRemoveRow.domain false) (Rows.fnNamesFeatureJoinInsertRemoveSpec.post enc Try.prog Try.f3 false true false false) := by
  refine returnsInHanded_of_change (C := Try.checked) own started (by kernel_rfl) Try.func3
    (ChangeSpec.witness6 (enc := enc) (C := Try.checked) false ⟨#[], #[.string ByteArray.empty, .slice none 0 0, .slice none 0 0, .string ByteArray.empty, .string ByteArray.empty], []⟩ 8 (by kernel_rfl) (by kernel_rfl) (by kernel_rfl) (by kernel_rfl)) ?_
  intro W base args ds gs before hval0 hW hcnd _
  have hval : ∀ (j : Nat) t v, Try.f3.params[j]? = some t → args[j]? = some v → Value.okWide Try.prog W .any base t v := hval0
  have hW' := hW
  obtain ⟨p, q, hA0, hV, rfl, hfz, hnd⟩ := hW
  have hA : DataW.TrodAll enc Try.prog W 0 (fun _ => true) true Try.f3.params.toList args.toList ds p := hA0
  rw [Try.params3] at hA hval
  obtain ⟨v0, vs0, d0, ds0, p0, q0, hargs, rfl, rfl, h0, r0⟩ := trodAll_cons hA
  obtain ⟨v1, vs1, d1, ds1, p1, q1, rfl, rfl, rfl, h1, r1⟩ := trodAll_cons r0
  obtain ⟨v2, vs2, d2, ds2, p2, q2, rfl, rfl, rfl, h2, r2⟩ := trodAll_cons r1
  obtain ⟨v3, vs3, d3, ds3, p3, q3, rfl, rfl, rfl, h3, r3⟩ := trodAll_cons r2
  obtain ⟨v4, vs4, d4, ds4, p4, q4, rfl, rfl, rfl, h4, r4⟩ := trodAll_cons r3
  obtain ⟨rfl, rfl, rfl⟩ := trodAll_nil r4
  obtain rfl : args = #[v0, v1, v2, v3, v4] := by cases args; simp_all
  obtain ⟨rfl, rfl⟩ := trodVars_none hV
  obtain ⟨sd, rfl, rfl, rfl, w0⟩ := open_string Try.underlying9 (hval 0 9 v0 rfl rfl) h0
  obtain ⟨a1, len1, cap1, rfl⟩ := okWide_slice Try.underlying22 (hval 1 22 v1 rfl rfl)
  have k1 := h1
  have lt1 : ∀ x ∈ p1, x.block < W.heap.size := by obtain ⟨m, hm⟩ := k1; exact DataW.trod_lt m _ _ _ hm
  obtain ⟨A, w1⟩ : ∃ S, IsRow W a1 len1 cap1 S := by
    obtain ⟨fuel, hf⟩ := h1
    rcases open_strings Try.underlying22 Try.underlying9 (by kernel_rfl) hf with ⟨hcs, _⟩ | ⟨x, l, c, ss, hcs, _, hl, hm, hz, _, hcell, hwz⟩
    · simp [Value.cells] at hcs
      obtain ⟨rfl, rfl, rfl⟩ := hcs
      exact ⟨[], rfl, by omega, .inl rfl, by simp⟩
    · simp [Value.cells] at hcs
      obtain ⟨rfl, rfl, rfl⟩ := hcs
      exact ⟨_, isRow_of hl hm (by simpa using hz) hcell hwz⟩
  obtain ⟨a2, len2, cap2, rfl⟩ := okWide_slice Try.underlying22 (hval 2 22 v2 rfl rfl)
  have k2 := h2
  have lt2 : ∀ x ∈ p2, x.block < W.heap.size := by obtain ⟨m, hm⟩ := k2; exact DataW.trod_lt m _ _ _ hm
  obtain ⟨B, w2⟩ : ∃ S, IsRow W a2 len2 cap2 S := by
    obtain ⟨fuel, hf⟩ := h2
    rcases open_strings Try.underlying22 Try.underlying9 (by kernel_rfl) hf with ⟨hcs, _⟩ | ⟨x, l, c, ss, hcs, _, hl, hm, hz, _, hcell, hwz⟩
    · simp [Value.cells] at hcs
      obtain ⟨rfl, rfl, rfl⟩ := hcs
      exact ⟨[], rfl, by omega, .inl rfl, by simp⟩
    · simp [Value.cells] at hcs
      obtain ⟨rfl, rfl, rfl⟩ := hcs
      exact ⟨_, isRow_of hl hm (by simpa using hz) hcell hwz⟩
  obtain ⟨sid, rfl, rfl, rfl, w3⟩ := open_string Try.underlying9 (hval 3 9 v3 rfl rfl) h3
  obtain ⟨ssh, rfl, rfl, rfl, w4⟩ := open_string Try.underlying9 (hval 4 9 v4 rfl rfl) h4
  clear hA0 hval0
  refine (walk sd sid ssh a1 a2 len1 cap1 len2 cap2 A B W w1 w2 w0 w3 w4).mono fun e W' ⟨he, bel⟩ => ?_
  subst he
  exact ⟨_, rfl, _, _, _, [], _, [], hW', trodAll_mk1 (shut_bool Try.underlying4 _), (trodAll_cons_mk (shut_string Try.underlying9 w0) (trodAll_cons_mk (Below.trod laidOut (by kernel_rfl) (of_decide_eq_true (by kernel_rfl)) k1 bel lt1) (trodAll_cons_mk (Below.trod laidOut (by kernel_rfl) (of_decide_eq_true (by kernel_rfl)) k2 bel lt2) (trodAll_cons_mk (shut_string Try.underlying9 w3) (trodAll_cons_mk (shut_string Try.underlying9 w4) trodAll_mk0))))), rfl, bel.frame _, fun h => by cases h⟩

theorem over : Rows.fnNamesFeatureJoinInsertRemoveRow.holds Try.pinned (OpenSpec.ofChange Rows.fnNamesFeatureJoinInsertRemoveSpec) :=
  OpenClaim.holds_of_wide 3 Try.f3 rfl rfl rfl rfl rfl rfl rfl ⟨rfl, rfl, rfl, rfl, rfl⟩ rfl rfl rfl rfl rfl (by kernel_rfl) Try.func3 (by kernel_rfl)
    (of_decide_eq_true (by kernel_rfl)) (by unfold Func.isWrapper; first | (rw [if_pos (by decide +kernel)]; kernel_rfl) | (rw [if_neg (by decide +kernel)]; exact ⟨rfl, rfl⟩))
    (fun os started H enc _ => lifted os started H enc)

/-- ████ THE STATEMENT ████ -/
theorem proved : Rows.FnNamesFeatureJoinInsertRemoveSaid := over
#print axioms proved
end Go.Proofs.Qxb6618470a.fnNamesFeatureJoinInsertRemove
