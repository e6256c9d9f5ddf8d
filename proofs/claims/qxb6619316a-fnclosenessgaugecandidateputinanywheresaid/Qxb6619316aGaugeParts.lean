/-
  FnClosenessGaugeCandidatePutInAnywhere: the two rows that the law builds.
-/
import Derived.Test.Qxb6619316aDomParts
import Derived.Test.Qxb6619316aGaugeLaw
namespace Go.Proofs.Qxb6619316a
open Go.RowKit

/-- The two rows that are built side by side. -/
structure Pair (wb wr : World) (G1 G2 l1 l2 c : Nat) (L1 L2 : List Nat) : Prop where
  o1 : wr.ownsRow wb.heap.size 28 1 (.slice (some ⟨G1, 0, none⟩) l1 c) l1 (U L1)
  o2 : wr.ownsRow wb.heap.size 28 1 (.slice (some ⟨G2, 0, none⟩) l2 c) l2 (U L2)
  bel : Below wb.heap.size wb wr
  ne : G1 ≠ G2

theorem own_base' {w : World} {base base' n : Nat} {v : Value} {xs : List Value} (h : w.ownsRow base 28 1 v n xs) (hb : base' ≤ base) : w.ownsRow base' 28 1 v n xs := by
  obtain ⟨h1, h2⟩ := h
  refine ⟨h1, ?_⟩
  rcases h2 with h2 | ⟨g, cap, cur, hv, hg, r⟩
  · exact .inl h2
  · exact .inr ⟨g, cap, cur, hv, by omega, r⟩

theorem pair_start {wb w1 w2 : World} {c : Nat} (h1 : w1.ownsRow wb.heap.size 28 1 (.slice (some ⟨wb.heap.size, 0, none⟩) 0 c) 0 []) (g1 : wb.grownBy w1 none) (h2 : w2.ownsRow w1.heap.size 28 1 (.slice (some ⟨w1.heap.size, 0, none⟩) 0 c) 0 []) (g2 : w1.grownBy w2 none) (hG : wb.heap.size < w1.heap.size) :
    Pair wb w2 wb.heap.size w1.heap.size 0 0 c [] [] where
  o1 := h1.kept g2 (.inr (by simp [Value.ownBlock]))
  o2 := own_base' h2 (by omega)
  bel := ((Below.refl _ _).grown g1 (Nat.le_refl _) (by simp)).grown g2 (by omega) (by simp)
  ne := by omega

theorem pair1 {wb wr w' : World} {G1 G2 l1 l2 c : Nat} {L1 L2 : List Nat} {x : Nat} {o : Obj} (h : Pair wb wr G1 G2 l1 l2 c L1 L2) (ho : w'.ownsRow wb.heap.size 28 1 (.slice (some ⟨G1, 0, none⟩) (l1 + 1) c) (l1 + 1) (U L1 ++ [.float .f64 x])) (hg : (wr.alloc o).grownBy w' (some G1)) :
    Pair wb w' G1 G2 (l1 + 1) l2 c (L1 ++ [x]) L2 where
  o1 := by rw [U_snoc]; exact ho
  o2 := (h.o2.alloc o).kept hg (.inr (by have := h.ne; simp [Value.ownBlock]; omega))
  bel := (h.bel.alloc h.bel.size o).grown hg (by have := h.bel.size; simp; omega) (fun k hk => by cases hk; exact (h.o1.lt G1 rfl).1)
  ne := h.ne

theorem pair2 {wb wr w' : World} {G1 G2 l1 l2 c : Nat} {L1 L2 : List Nat} {x : Nat} {o : Obj} (h : Pair wb wr G1 G2 l1 l2 c L1 L2) (ho : w'.ownsRow wb.heap.size 28 1 (.slice (some ⟨G2, 0, none⟩) (l2 + 1) c) (l2 + 1) (U L2 ++ [.float .f64 x])) (hg : (wr.alloc o).grownBy w' (some G2)) :
    Pair wb w' G1 G2 l1 (l2 + 1) c L1 (L2 ++ [x]) where
  o1 := (h.o1.alloc o).kept hg (.inr (by have := h.ne; simp [Value.ownBlock]; omega))
  o2 := by rw [U_snoc]; exact ho
  bel := (h.bel.alloc h.bel.size o).grown hg (by have := h.bel.size; simp; omega) (fun k hk => by cases hk; exact (h.o2.lt G2 rfl).1)
  ne := h.ne

theorem reads_own' {w : World} {base g n c : Nat} {Z : List Nat} (h : w.ownsRow base 28 1 (.slice (some ⟨g, 0, none⟩) n c) n (U Z)) : Z.length = n ∧ Reads w.heap.size w (some ⟨g, 0, none⟩) Z := by
  have hl : Z.length = n := by have := h.1; rw [U_length] at this; omega
  refine ⟨hl, .inr ⟨g, 0, rfl, (h.lt g rfl).2, fun j hj => ?_⟩⟩
  rw [Nat.zero_add, h.cellAt j (by omega), U_get hj]
end Go.Proofs.Qxb6619316a
