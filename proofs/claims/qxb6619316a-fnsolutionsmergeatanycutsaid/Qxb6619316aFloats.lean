/-
  A SLICE OF FLOATS THAT CAME IN, OPENED: what the walks are told of it. (Beside the guide's 'open_ints', 'open_strings'.)
-/
import Derived.Test.Qxb6619316aDomParts
import Derived.SliceStrings
namespace Go.Proofs.Qxb6619316a
open Go.ChangeShapes Go.WideShapes Go.ChangeAt Go.RowKit
set_option linter.unusedVariables false

section
variable {H : Type} {enc : TypeId × Value → H} {P : Program} {w : World} {base : Nat} {spare : Nat → Bool} {held : Bool}

theorem trod_float1 {e : TypeId} {fuel : Nat} {cs : List Value} {x : DataW H × List MemPlace} (he : P.underlying e = some (.float .f64)) (h : DataW.trod enc P w base spare held fuel e cs = some x) :
    ∃ b, cs = [.float .f64 b] := by
  cases fuel with
  | zero => simp [DataW.trod] at h
  | succ n =>
    unfold DataW.trod at h
    rw [he] at h
    split at h <;> simp_all

/-- A list of things, each of which is there, gathered. -/
theorem gather {α : Type} (p : Nat → α → Prop) : ∀ n, (∀ i, i < n → ∃ x, p i x) → ∃ L : List α, L.length = n ∧ ∀ i (h : i < L.length), p i L[i]
  | 0, _ => ⟨[], rfl, fun i h => absurd h (by simp)⟩
  | n + 1, hp => by
    obtain ⟨L, hl, hL⟩ := gather p n (fun i hi => hp i (by omega))
    obtain ⟨x, hx⟩ := hp n (by omega)
    refine ⟨L ++ [x], by simp [hl], fun i hi => ?_⟩
    by_cases h : i < L.length
    · rw [List.getElem_append_left h]; exact hL i h
    · simp at hi
      have e : i = L.length := by omega
      subst e
      rw [List.getElem_append_right (by omega)]
      simp
      rw [hl]
      exact hx

theorem cell_lt {w : World} {b o : Nat} {v : Value} (h : w.cell? ⟨b, o, none⟩ = some v) : b < w.heap.size := by
  simp only [World.cell?] at h
  by_cases hlt : b < w.heap.size
  · exact hlt
  · rw [Array.getElem?_eq_none (by omega)] at h
    simp at h

theorem open_floats {t e : TypeId} {fuel : Nat} {a : Option Addr} {len cap : Nat} {x : DataW H × List MemPlace} (ht : P.underlying t = some (.slice e)) (he : P.underlying e = some (.float .f64)) (hc : P.cellsOf e = 1)
    (h : DataW.trod enc P w base spare held fuel t [.slice a len cap] = some x) : ∃ Z : List Nat, Z.length = len ∧ len ≤ 9223372036854775807 ∧ CameIn w a cap Z := by
  rcases DataW.trod_slice ht h with ⟨h0, _⟩ | ⟨ad, len', cap', elems, rest, n, _, hcs, _, hb, hl, hm, hlen, hel, _, _⟩
  · simp at h0
    obtain ⟨rfl, rfl, rfl⟩ := h0
    exact ⟨[], rfl, by omega, fun _ => ⟨rfl, rfl⟩, .inl rfl⟩
  · simp at hcs
    obtain ⟨rfl, rfl, rfl⟩ := hcs
    have each : ∀ i, i < len → ∃ b, w.cell? (ad.add i) = some (.float .f64 b) := by
      intro i hi
      have h1 := hel i hi
      rw [List.getElem?_eq_getElem (by omega), hc, Nat.mul_one, Option.bind_eq_some_iff] at h1
      obtain ⟨cs', hcs, hy⟩ := h1
      obtain ⟨b, rfl⟩ := trod_float1 he hy
      exact ⟨b, cell_of_cells?_one hcs⟩
    obtain ⟨Z, hZ, hc2⟩ := gather (fun i b => w.cell? (ad.add i) = some (.float .f64 b)) len each
    refine ⟨Z, hZ, by unfold maxLen at hm; omega, ⟨(fun h => by simp at h), ?_⟩⟩
    by_cases h0 : len = 0
    · exact .inl (List.eq_nil_of_length_eq_zero (by omega))
    · obtain ⟨b, off, spot⟩ := ad
      have hspot : spot = none := by simpa [Addr.add] using World.cell?_spot (hc2 0 (by omega))
      subst hspot
      have hcell : ∀ j, j < Z.length → w.cell? ⟨b, off + j, none⟩ = some (.float .f64 (Z.getD j 0)) := by
        intro j hj
        rw [← Go.WideShapes.add_plain, hc2 j hj]
        simp [List.getD, hj]
      exact .inr ⟨b, off, rfl, cell_lt (hcell 0 (by omega)), hcell⟩
end
end Go.Proofs.Qxb6619316a
