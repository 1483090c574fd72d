/-
  What the two told cards share: the program's closed facts; a slice of bytes that came in.
-/
import Derived.Test.Qxb6628474aFmtMade
import Derived.Test.Qxb6628474aFmtCards
import Derived.ProofKit
import Derived.OpenShut
import Derived.ShutString
import Derived.ChangeOld
import Derived.Stop.JoinedTold
import Derived.SevenToldRow
namespace Go.Proofs.Qxb6628474aFmt
open Go.ChangeShapes Go.WideShapes Go.ChangeAt Go.RowKit
open Go.ChangeMaps (open_string shut_string)
open Go.Extern.Stop Go.Stop Go.Extern
set_option linter.unusedVariables false

theorem own : ownKnob Tryf.prog.godebug = none := by kernel_rfl
theorem laidOut : laidOutB Tryf.prog = true := by kernel_rfl
theorem stopsAre : Tryf.pinned.checked.prog.stops = ["fmt.errorf"] := by kernel_rfl
theorem stopKnobs : Tryf.pinned.checked.prog.stopKnobs = [] := by kernel_rfl
theorem quietAll (os : Os) : Stop.quiet Tryf.pinned.checked.prog os := by
  intro k hk
  rw [stopKnobs] at hk
  cases hk

/-- A slice of bytes that came in: nil; or a row of 'cap' cells, the numbers 'zs'. -/
def IsRow (w : World) (a : Option Addr) (len cap : Nat) (zs : List Int) : Prop :=
  (a = none ∧ len = 0 ∧ cap = 0 ∧ zs = []) ∨
  ∃ x, a = some x ∧ len ≤ cap ∧ cap ≤ maxLen ∧ zs.length = cap ∧ (∀ i, i < zs.length → w.cell? (x.add i) = some (.int .u8 (zs.getD i 0))) ∧ ∀ n ∈ zs, (Lit.int .u8 n).wf = true

theorem bytes_take {zs : List Int} (h : ∀ n ∈ zs, (Lit.int .u8 n).wf = true) (k : Nat) : Bytes (zs.take k) := by
  intro j
  rcases Nat.lt_or_ge j (zs.take k).length with hj | hj
  · have hm : (zs.take k).getD j 0 ∈ zs := by
      rw [List.getD_eq_getElem?_getD, List.getElem?_eq_getElem hj]
      exact List.mem_of_mem_take (List.getElem_mem hj)
    have := h _ hm
    generalize (zs.take k).getD j 0 = y at *
    simp [Lit.wf, IntKind.min, IntKind.max, IntKind.signed, IntKind.bits] at this
    omega
  · rw [List.getD_eq_getElem?_getD, List.getElem?_eq_none hj]; simp

theorem cells_take {w : World} {x : Addr} {zs : List Int} {len : Nat} (hc : ∀ i, i < zs.length → w.cell? (x.add i) = some (.int .u8 (zs.getD i 0))) : ∀ j v, (u8s (zs.take len))[j]? = some v → w.cell? (x.add j) = some v := by
  intro j v hv
  obtain ⟨hj, rfl⟩ := u8s_get hv
  have hj' : j < len ∧ j < zs.length := by rw [List.length_take] at hj; omega
  rw [hc j hj'.2]
  simp [List.getD_eq_getElem?_getD, hj'.1]

end Go.Proofs.Qxb6628474aFmt
