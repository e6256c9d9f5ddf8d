import Derived.Test.Qxb6618469aNamed
import Derived.Deep.DeepCutAuto
import Derived.Handy
import Derived.WalkSpells
namespace Go.Proofs.Qxb6618469a
open Go.RowKit

theorem Try.info23 : (Try.prog.info? 23).map (fun i => (i.zero, i.size, i.bytes)) = some (some (.int .u64 0), 1, 8) := by kernel_rfl
theorem Try.size23 : (Try.prog.info? 23).map (·.size) = some 1 := by kernel_rfl

/-- The cells of a list of numbers (a name of its own, so that the walk lets it stand). -/
def U (Z : List Int) : List Value := Z.map (Value.int .u64)
theorem U_length (Z : List Int) : (U Z).length = Z.length := by simp [U]
theorem U_snoc (Z : List Int) (x : Int) : U (Z ++ [x]) = U Z ++ [.int .u64 x] := by simp [U]
theorem U_one (Z : List Int) : ∀ u ∈ U Z, u.oneCell' = true := ints_oneCell _ _

/-- The slice in slot 0 behind the copy: nil over no numbers, or a row below block B that reads as Z, no spare room. -/
def Kept (B : Nat) (w : World) (v : Value) (Z : List Int) : Prop :=
  ∃ a, v = .slice a Z.length Z.length ∧ ((Z = []) ∨ ∃ g, g < B ∧ a = some ⟨g, 0, none⟩ ∧ ∀ j, j < Z.length → w.cell? ⟨g, j, none⟩ = some (.int .u64 (Z.getD j 0)))

/-- The block behind a row that the call has just made, whole. -/
theorem full_block {w : World} {base g n : Nat} {e : TypeId} {xs : List Value} (h : w.ownsRow base e 1 (.slice (some ⟨g, 0, none⟩) n n) n xs) : ∃ cur : List Value, w.heap[g]? = some (.cells cur.toArray e (0, 0)) ∧ cur.length = n := by
  rcases h.2 with ⟨h', _⟩ | ⟨g', cap', cur, h', _, hg, _, _, hs, _⟩
  · simp at h'
  · simp only [Value.slice.injEq, Option.some.injEq, Addr.mk.injEq, and_true, true_and] at h'
    obtain ⟨rfl, rfl⟩ := h'
    exact ⟨cur.toList, by simpa using hg, by simpa using hs⟩

/-- What the copy leaves in the new row. -/
theorem splice_all {cur cs : List Value} (h : cur.length = cs.length) : splice cur 0 cs = cs := by
  simp [splice, List.drop_eq_nil_of_le (Nat.le_of_eq h)]

theorem kept_mk {w : World} {g : Nat} {Z : List Int} (hg : w.heap[g]? = some (.cells (U Z).toArray 23 (0, 0))) (hB : g < w.heap.size) : Kept w.heap.size w (.slice (some ⟨g, 0, none⟩) Z.length Z.length) Z := by
  refine ⟨_, rfl, .inr ⟨g, hB, rfl, fun j hj => ?_⟩⟩
  rw [cell_of_row w g j _ 23 (0, 0) hg]
  simp [U, List.getD, hj]

theorem copy_pos {w : World} {x : Addr} {Z : List Int} {sp : Option Addr} (hs : sp = some x) (hr : ∀ j, j < Z.length → w.cell? (x.add j) = some (.int .u64 (Z.getD j 0))) : ∃ ad, sp = some ad ∧ ∀ j v, (U Z)[j]? = some v → w.cell? (ad.add j) = some v := by
  refine ⟨x, hs, fun j v hv => ?_⟩
  simp only [U, List.getElem?_map, Option.map_eq_some_iff] at hv
  obtain ⟨z, hz, rfl⟩ := hv
  have hj := (List.getElem?_eq_some_iff.1 hz).1
  rw [hr j hj]
  simp [List.getD, hz]

/-- One append of 'x', laid in a block of its own, within the room. -/
theorem step {wc wr w' : World} {G k c : Nat} {Y : List Int} {x : Int} {o : Obj} (hG : G ≤ wc.heap.size) (hbel : Below G wc wr) (hown : w'.ownsRow G 23 1 (.slice (some ⟨G, 0, none⟩) (k + 1) c) (k + 1) (U Y ++ [.int .u64 x])) (hgr : (wr.alloc o).grownBy w' (some G)) :
    w'.ownsRow G 23 1 (.slice (some ⟨G, 0, none⟩) (k + 1) c) (k + 1) (U (Y ++ [x])) ∧ Below G wc w' := by
  have hs := hbel.size
  refine ⟨by rw [U_snoc]; exact hown, (hbel.alloc (by omega) o).grown hgr (by simp; omega) ?_⟩
  intro k hk
  cases hk
  exact Nat.le_refl _

/-- An owned row reads as its numbers. -/
theorem reads_own {w : World} {G n c : Nat} {Y : List Int} (h : w.ownsRow G 23 1 (.slice (some ⟨G, 0, none⟩) n c) n (U Y)) : Y.length = n ∧ Reads w (some ⟨G, 0, none⟩) Y := by
  have hl : Y.length = n := by have := h.1; rw [U_length] at this; omega
  refine ⟨hl, .inr ⟨G, 0, rfl, fun j hj => ?_⟩⟩
  rw [Nat.zero_add, h.cellAt j (by omega)]
  simp [U, List.getD, hj]

theorem reads_take {w : World} {a : Option Addr} {Z : List Int} (i : Nat) (h : Reads w a Z) : Reads w a (Z.take i) := by
  rcases h with rfl | ⟨b, off, ha, hc⟩
  · exact .inl (by simp)
  · refine .inr ⟨b, off, ha, fun j hj => ?_⟩
    rw [List.length_take] at hj
    rw [hc j (by omega)]
    simp [List.getD, show j < i from by omega]

theorem reads_drop {w : World} {a a' : Option Addr} {Z : List Int} (i : Nat) (h : Reads w a Z) (ha' : ¬ Z.length = i → a' = a.map (·.add i)) (hi : i ≤ Z.length) : Reads w a' (Z.drop i) := by
  by_cases e : Z.length = i
  · exact .inl (List.drop_eq_nil_of_le (by omega))
  · rcases h with rfl | ⟨b, off, rfl, hc⟩
    · simp at e hi; omega
    · refine .inr ⟨b, off + i, by rw [ha' e]; simp [Addr.add], fun j hj => ?_⟩
      rw [List.length_drop] at hj
      rw [Nat.add_assoc, hc (i + j) (by omega)]
      simp [List.getD]

end Go.Proofs.Qxb6618469a
