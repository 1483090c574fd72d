/-
  Blocks of cells by a function of the place; the two parts of the flags.
-/
import Derived.Test.Qxb6629077aRun
import Derived.Test.Qxb6629077aCat
namespace Go.Proofs.Qxb6629077a
open Go.RowKit
set_option linter.unusedVariables false

def rowV (n : Nat) (f : Nat → Value) : List Value := (List.range n).map f
theorem rowV_length (n : Nat) (f : Nat → Value) : (rowV n f).length = n := by simp [rowV]
theorem rowV_get (n : Nat) (f : Nat → Value) {s : Nat} (h : s < n) : (rowV n f)[s]? = some (f s) := by
  simp [rowV, List.getElem?_map, List.getElem?_range h]

/-- Block g holds n cells, cell i the value f i. -/
def Blk (w : World) (g : Nat) (t : TypeId) (n : Nat) (f : Nat → Value) : Prop := w.heap[g]? = some (.cells (rowV n f).toArray t (0, 0))

section
variable {w w' : World} {g B : Nat} {t : TypeId} {n : Nat} {f f' : Nat → Value}
theorem blk_cell (h : Blk w g t n f) {s : Nat} (hs : s < n) : w.cell? ⟨g, s, none⟩ = some (f s) := by
  rw [cell_of_row w g s _ t (0, 0) h]; simpa using rowV_get n f hs
theorem blk_free (h : Blk w g t n f) (s : Nat) : w.frozen? ⟨g, s, none⟩ = false := frozen_of_row w g s _ t h
theorem blk_lt (h : Blk w g t n f) : g < w.heap.size := lt_of_block h
theorem rowV_set (f f' : Nat → Value) (n s : Nat) (v : Value) (h1 : f' s = v) (h2 : ∀ i, i ≠ s → f' i = f i) : (rowV n f).toArray.setIfInBounds s v = (rowV n f').toArray := by
  rw [List.setIfInBounds_toArray]
  congr 1
  apply List.ext_getElem?
  intro i
  by_cases hi : i < n
  · rw [List.getElem?_set, rowV_get n f' hi]
    by_cases e : s = i
    · subst e; rw [if_pos rfl, if_pos (by rw [rowV_length]; exact hi), h1]
    · rw [if_neg e, rowV_get n f hi, h2 i (fun x => e x.symm)]
  · rw [List.getElem?_eq_none (by simp [rowV_length]; omega), List.getElem?_eq_none (by simp [rowV_length]; omega)]
theorem blk_set (h : Blk w g t n f) {s : Nat} {v : Value} (h1 : f' s = v) (h2 : ∀ i, i ≠ s → f' i = f i) : Blk (w.setCell ⟨g, s, none⟩ v) g t n f' := by
  unfold Blk; rw [heap_setCell_same w g s _ t _ h, rowV_set f f' n s v h1 h2]
theorem blk_far (h : Blk w g t n f) {a : Addr} {v : Value} (hne : g ≠ a.block) : Blk (w.setCell a v) g t n f := by
  unfold Blk; rw [heap_setCell_other _ _ _ _ hne]; exact h
theorem blk_below (h : Blk w g t n f) (hb : Below B w w') (hg : g < B) : Blk w' g t n f := by unfold Blk; rw [hb.block g hg]; exact h
theorem blk_grown {r : Option Nat} (h : Blk w g t n f) (hb : w.grownBy w' r) (hg : some g ≠ r) : Blk w' g t n f := by unfold Blk; rw [hb.block g (blk_lt h) hg]; exact h
theorem blk_congr (h : Blk w g t n f) (e : ∀ s, s < n → f s = f' s) : Blk w g t n f' := by
  have : rowV n f = rowV n f' := List.map_congr_left fun s hs => e s (List.mem_range.1 hs)
  unfold Blk; rw [← this]; exact h
theorem blk_drewN (h : Blk w g t n f) (k : Nat) : Blk (w.drewN k) g t n f := h
theorem blk_alloc (h : Blk w g t n f) (o : Obj) : Blk (w.alloc o) g t n f := by unfold Blk; rw [Below.heap_alloc w o g (blk_lt h)]; exact h
end

theorem blk_new (w : World) (t : TypeId) (n : Nat) (f : Nat → Value) : Blk (w.alloc (.cells (rowV n f).toArray t)) w.heap.size t n f := by unfold Blk; rw [heap_alloc_new]

/-- The flags before the cut k, and from it on, as the loop has laid them after j rounds. -/
def lo (p : Nat → Bool) (k j i : Nat) : Bool := p i && decide (i < k) && decide (i < j)
def hi (p : Nat → Bool) (k j i : Nat) : Bool := p i && decide (k ≤ i) && decide (i < j)
theorem lo_zero (p : Nat → Bool) (k i : Nat) : lo p k 0 i = false := by simp [lo]
theorem hi_zero (p : Nat → Bool) (k i : Nat) : hi p k 0 i = false := by simp [hi]
theorem lo_other {p : Nat → Bool} {k j i : Nat} (h : i ≠ j) : lo p k (j + 1) i = lo p k j i := by unfold lo; congr 1; simp; omega
theorem hi_other {p : Nat → Bool} {k j i : Nat} (h : i ≠ j) : hi p k (j + 1) i = hi p k j i := by unfold hi; congr 1; simp; omega
theorem lo_at {p : Nat → Bool} {k j : Nat} (h : j < k) : lo p k (j + 1) j = p j := by simp [lo, h]
theorem hi_at {p : Nat → Bool} {k j : Nat} (h : k ≤ j) : hi p k (j + 1) j = p j := by simp [hi, h]
theorem lo_skip {p : Nat → Bool} {k j : Nat} (h : ¬ j < k) (i : Nat) : lo p k j i = lo p k (j + 1) i := by
  by_cases e : i = j
  · subst e; simp [lo, h]
  · rw [lo_other e]
theorem hi_skip {p : Nat → Bool} {k j : Nat} (h : j < k) (i : Nat) : hi p k j i = hi p k (j + 1) i := by
  by_cases e : i = j
  · subst e; simp [hi]; omega
  · rw [hi_other e]

theorem split_law (a1 a2 a3 a4 a0 : Bool) (k : Nat) (hk : k ≤ 4) :
    (names (lo (pk a1 a2 a3 a4 a0) k 4 0) (lo (pk a1 a2 a3 a4 a0) k 4 1) (lo (pk a1 a2 a3 a4 a0) k 4 2) (lo (pk a1 a2 a3 a4 a0) k 4 3)).length = cn (pk a1 a2 a3 a4 a0) 0 k ∧
    (names (hi (pk a1 a2 a3 a4 a0) k 4 0) (hi (pk a1 a2 a3 a4 a0) k 4 1) (hi (pk a1 a2 a3 a4 a0) k 4 2) (hi (pk a1 a2 a3 a4 a0) k 4 3)).length = cn (pk a1 a2 a3 a4 a0) k (4 - k) ∧
    names (lo (pk a1 a2 a3 a4 a0) k 4 0) (lo (pk a1 a2 a3 a4 a0) k 4 1) (lo (pk a1 a2 a3 a4 a0) k 4 2) (lo (pk a1 a2 a3 a4 a0) k 4 3) ++ names (hi (pk a1 a2 a3 a4 a0) k 4 0) (hi (pk a1 a2 a3 a4 a0) k 4 1) (hi (pk a1 a2 a3 a4 a0) k 4 2) (hi (pk a1 a2 a3 a4 a0) k 4 3) = names a1 a2 a3 a4 := by
  rcases (by omega : k = 0 ∨ k = 1 ∨ k = 2 ∨ k = 3 ∨ k = 4) with rfl | rfl | rfl | rfl | rfl <;> cases a1 <;> cases a2 <;> cases a3 <;> cases a4 <;> exact ⟨rfl, rfl, rfl⟩
end Go.Proofs.Qxb6629077a
