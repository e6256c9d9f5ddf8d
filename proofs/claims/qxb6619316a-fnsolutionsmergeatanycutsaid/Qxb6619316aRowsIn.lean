/-
  A SLICE OF SLICES OF FLOATS THAT CAME IN, OPENED.
-/
import Derived.Test.Qxb6619316aFloats
import Derived.Test.Qxb6619316aBoundParts
namespace Go.Proofs.Qxb6619316a
open Go.ChangeShapes Go.WideShapes Go.ChangeAt Go.RowKit
set_option linter.unusedVariables false

section
variable {H : Type} {enc : TypeId × Value → H} {P : Program} {w : World} {base : Nat} {spare : Nat → Bool} {held : Bool}

theorem open_rows {t e f : TypeId} {fuel : Nat} {a : Option Addr} {len cap : Nat} {x : DataW H × List MemPlace} (ht : P.underlying t = some (.slice e)) (he : P.underlying e = some (.slice f)) (hf : P.underlying f = some (.float .f64)) (hce : P.cellsOf e = 1) (hcf : P.cellsOf f = 1)
    (h : DataW.trod enc P w base spare held fuel t [.slice a len cap] = some x) :
    ∃ (A : Nat → Option Addr) (cp : Nat → Nat) (Z : List (List Nat)), Z.length = len ∧ len ≤ 9223372036854775807 ∧ len ≤ cap ∧ (∀ i, i < len → (Z.getD i []).length ≤ 9223372036854775807) ∧ CameRows w a len A cp Z := by
  rcases DataW.trod_slice ht h with ⟨h0, _⟩ | ⟨ad, len', cap', elems, rest, n, _, hcs, _, hb, hl, hm, hlen, hel, _, _⟩
  · simp at h0
    obtain ⟨rfl, rfl, rfl⟩ := h0
    exact ⟨fun _ => none, fun _ => 0, [], rfl, by omega, Nat.le_refl _, fun i hi => by omega, .inl rfl⟩
  · simp at hcs
    obtain ⟨rfl, rfl, rfl⟩ := hcs
    have each : ∀ i, i < len → ∃ y : Option Addr × Nat × List Nat, w.cell? (ad.add i) = some (.slice y.1 y.2.2.length y.2.1) ∧ y.2.2.length ≤ 9223372036854775807 ∧ CameIn w y.1 y.2.1 y.2.2 := by
      intro i hi
      have h1 := hel i hi
      rw [List.getElem?_eq_getElem (by omega), hce, Nat.mul_one, Option.bind_eq_some_iff] at h1
      obtain ⟨cs', hcs, hy⟩ := h1
      have hshape : ∃ ai li ci, cs' = [.slice ai li ci] := by
        rcases DataW.trod_slice he hy with ⟨h0, _⟩ | ⟨ai, li, ci, _, _, _, _, h0, _⟩
        · exact ⟨_, _, _, h0⟩
        · exact ⟨_, _, _, h0⟩
      obtain ⟨ai, li, ci, rfl⟩ := hshape
      obtain ⟨Zi, hZi, hmi, hin⟩ := open_floats he hf hcf hy
      exact ⟨(ai, ci, Zi), by rw [hZi]; exact cell_of_cells?_one hcs, by rw [hZi]; exact hmi, hin⟩
    obtain ⟨L, hL, hc2⟩ := gather (fun i (y : Option Addr × Nat × List Nat) => w.cell? (ad.add i) = some (.slice y.1 y.2.2.length y.2.1) ∧ y.2.2.length ≤ 9223372036854775807 ∧ CameIn w y.1 y.2.1 y.2.2) len each
    have hz : ∀ i (hi : i < L.length), (L.map (·.2.2)).getD i [] = L[i].2.2 := fun i hi => by simp [List.getD, hi]
    refine ⟨fun i => (L.getD i (none, 0, [])).1, fun i => (L.getD i (none, 0, [])).2.1, L.map (·.2.2), by simp [hL], by unfold maxLen at hm; omega, hl, fun i hi => ?_, ?_⟩
    · rw [hz i (by omega)]; exact (hc2 i (by omega)).2.1
    · by_cases h0 : len = 0
      · exact .inl (by rw [List.eq_nil_of_length_eq_zero (show L.length = 0 by omega)]; rfl)
      · obtain ⟨b, off, spot⟩ := ad
        have hspot : spot = none := by simpa [Addr.add] using World.cell?_spot (hc2 0 (by omega)).1
        subst hspot
        have hg : ∀ i (hi : i < len), L.getD i (none, 0, []) = L[i]'(by omega) := fun i hi => by simp [List.getD, show i < L.length by omega]
        have hcell : ∀ i (hi : i < len), w.cell? ⟨b, off + i, none⟩ = some (.slice (L[i]'(by omega)).1 (L[i]'(by omega)).2.2.length (L[i]'(by omega)).2.1) := by
          intro i hi
          rw [← Go.WideShapes.add_plain]
          exact (hc2 i (by omega)).1
        refine .inr ⟨b, off, rfl, cell_lt (hcell 0 (by omega)), fun i hi => ?_, fun i hi => ?_, fun i hi => ?_⟩
        · simp only [hg i hi]
          rw [hz i (by omega)]
          exact hcell i hi
        · simp only [hg i hi]
          rw [hz i (by omega)]
          exact (hc2 i (by omega)).2.2.2
        · simp only [hg i hi]
          rw [hz i (by omega)]
          exact fun e => ((hc2 i (by omega)).2.2.1 e).1
end
end Go.Proofs.Qxb6619316a
