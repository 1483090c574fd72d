/-
  A slice of bytes that came in, as the two laws' walks want it.
-/
import Derived.Test.Qxb6629003aPlain
import Derived.WalkKit
import Derived.OpenShut
namespace Go.Proofs.Qxb6629003a
open Go.RowKit

theorem bytes_take {zs : List Int} (h : ∀ n ∈ zs, (Lit.int .u8 n).wf = true) (k : Nat) : Bytes (zs.take k) := by
  intro j
  rcases Nat.lt_or_ge j (zs.take k).length with hj | hj
  · have hm : (zs.take k).getD j 0 ∈ zs := by
      rw [List.getD_eq_getElem?_getD, List.getElem?_eq_getElem hj]
      exact List.mem_of_mem_take (List.getElem_mem hj)
    have := h _ hm
    generalize (zs.take k).getD j 0 = y at *
    simp [Lit.wf, IntKind.min, IntKind.max, IntKind.signed, IntKind.bits] at this
    omega
  · rw [List.getD_eq_getElem?_getD, List.getElem?_eq_none hj]; simp

/-- Where a slice has an element it begins at a plain address, and its cells hold its numbers. -/
theorem row_at {w : World} {x : Addr} {zs : List Int} {len : Nat} (hl : len ≤ zs.length) (hp : 0 < len) (hc : ∀ i, i < zs.length → w.cell? (x.add i) = some (.int .u8 (zs.getD i 0))) :
    ∃ b off, x = ⟨b, off, none⟩ ∧ b < w.heap.size ∧ ∀ k, k < (zs.take len).length → w.cell? ⟨b, off + k, none⟩ = some (.int .u8 ((zs.take len).getD k 0)) := by
  obtain ⟨b, off, rfl, h⟩ := ints_at hc (by omega)
  refine ⟨b, off, rfl, ?_, fun k hk => ?_⟩
  · have h0 := h 0 (by omega)
    rcases Nat.lt_or_ge b w.heap.size with h' | h'
    · exact h'
    · simp [World.cell?, Array.getElem?_eq_none h'] at h0
  · rw [List.length_take] at hk
    rw [h k (by omega)]
    have : k < len := by omega
    simp [List.getD_eq_getElem?_getD, this]

end Go.Proofs.Qxb6629003a
