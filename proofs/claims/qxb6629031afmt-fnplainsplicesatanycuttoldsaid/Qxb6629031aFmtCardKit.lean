/-
  What the two told and tied cards share: the program's closed facts; the start that is there; the arguments opened.
-/
import Derived.Test.Qxb6629031aFmtIs
import Derived.Test.Qxb6629031aFmtCards
import Derived.Test.Qxb6629031aFmtTie
import Derived.ProofKit
import Derived.OpenShut
import Derived.ShutString
import Derived.ChangeOld
import Derived.Stop.JoinedTold
import Derived.Stop.JoinedAt
import Derived.Stop.LaidErr
import Derived.SevenToldRow
import Derived.SevenTiedAt
import Derived.SliceStrings
import Derived.Deep.Grids
import Derived.Lib.LaidIn
import Derived.Deep.DeepWitnessRowRef
namespace Go.Proofs.Qxb6629031aFmt
open Go.ChangeShapes Go.WideShapes Go.ChangeAt Go.RowKit Go.Lib
open Go.Extern.Stop Go.Stop Go.Extern
set_option linter.unusedVariables false

theorem own : ownKnob Tryf.prog.godebug = none := by kernel_rfl
theorem laidOut : laidOutB Tryf.prog = true := by kernel_rfl
theorem stopsAre : Tryf.pinned.checked.prog.stops = ["fmt.errorf"] := by kernel_rfl
theorem stopKnobs : Tryf.pinned.checked.prog.stopKnobs = [] := by kernel_rfl
theorem quietAll (os : Os) : Stop.quiet Tryf.pinned.checked.prog os := by
  intro k hk
  rw [stopKnobs] at hk
  cases hk
theorem starName : "*" ++ "errors.errorString" = "*errors.errorString" := by decide
theorem row60 (u : TypeId) (h : Tryf.prog.typeName? 3 u = some "*errors.errorString") : u = 60 :=
  typeName_ptr_named (nm := "errors.errorString") (by rw [starName]; kernel_rfl) (by kernel_rfl) (by decide) u (by rw [starName]; exact h)

def z2 : List Int := [1, 10, 100, 1000, 10000, 100000, 1000000, 10000000, 100000000, 1000000000, 10000000000, 100000000000, 1000000000000, 10000000000000, 100000000000000, 1000000000000000, 10000000000000000, 100000000000000000, 1000000000000000000, 10000000000000000000]
def z3 : List Int := [0, 1, 28, 2, 29, 14, 24, 3, 30, 22, 20, 15, 25, 17, 4, 8, 31, 27, 13, 23, 21, 19, 16, 7, 26, 12, 18, 6, 11, 5, 10, 9]
def z4 : List Int := [0, 1, 56, 2, 57, 49, 28, 3, 61, 58, 42, 50, 38, 29, 17, 4, 62, 47, 59, 36, 45, 43, 51, 22, 53, 39, 33, 30, 24, 18, 12, 5, 63, 55, 48, 27, 60, 41, 37, 16, 46, 35, 44, 21, 52, 32, 23, 11, 54, 26, 40, 15, 34, 20, 31, 10, 25, 14, 19, 9, 13, 8, 7, 6]

/-- The settled world, the five listed variables holding what their initialisers lay. -/
noncomputable def laidWorld (os : Os) : World :=
  let N := (World.settled Tryf.prog os).heap.size
  let w0 := World.holding Tryf.prog os ⟨#[.cells #[.string ⟨#[118, 97, 108, 117, 101, 32, 111, 117, 116, 32, 111, 102, 32, 114, 97, 110, 103, 101]⟩] 62, .cells #[.string ⟨#[105, 110, 118, 97, 108, 105, 100, 32, 115, 121, 110, 116, 97, 120]⟩] 62], #[], []⟩
  let put (h : Array Obj) (g : Nat) (cs : Array Value) : Array Obj := h.modify g fun
    | .cells _ t frozen => .cells cs t frozen
    | o => o
  let h0 := put (put w0.heap 0 #[.iface 60 (.pointer (some ⟨N + 1, 0, none⟩))]) 1 #[.iface 60 (.pointer (some ⟨N, 0, none⟩))]
  let h1 := put (put (put h0 2 (z2.map (Value.int .u64)).toArray) 3 (z3.map (Value.int .u8)).toArray) 4 (z4.map (Value.int .u8)).toArray
  { w0 with heap := h1 }

noncomputable abbrev N0 : Nat := (World.settled Tryf.prog default).heap.size
set_option maxRecDepth 1000000 in
theorem laid_met (os : Os) (args : Array Value) : laidMet Tryf.prog Rows.fnPlainIsTheLineTableOfKeptTasksRow.laid ((laidWorld os).forCall (fun _ _ => 0) ⟨#[], args, []⟩).memory :=
  (LaidIn.of_run [3, 4, 2, 1, N0, 0, N0 + 1] 10 (by kernel_rfl) (by kernel_rfl) (by kernel_rfl) (by kernel_rfl)).met

theorem errAt_of {W : World} {g : Nat} {nm : String} {a : Addr} (hg : Tryf.prog.globalNamed nm = some g) (h : W.var? Tryf.prog nm = some #[.iface 60 (.pointer (some a))]) : ErrAt W g :=
  ⟨_, by simpa using World.var?_cell hg h 0, .inr ⟨_, _, rfl⟩⟩

theorem errs_of {W : World} (h : laidMet Tryf.prog Rows.fnPlainIsTheLineTableOfKeptTasksRow.laid W) : ErrAt W 0 ∧ ErrAt W 1 := by
  obtain ⟨a1, t1, hv1, _⟩ := laid_sentinel (g := 1) h.tail.tail.tail (by kernel_rfl) (by kernel_rfl) Tryf.underlying34 row60 Tryf.underlying60 Tryf.underlying62 rfl rfl Tryf.underlying9 (by kernel_rfl) (by kernel_rfl)
  obtain ⟨a0, t0, hv0, _⟩ := laid_sentinel (g := 0) h.tail.tail.tail.tail (by kernel_rfl) (by kernel_rfl) Tryf.underlying34 row60 Tryf.underlying60 Tryf.underlying62 rfl rfl Tryf.underlying9 (by kernel_rfl) (by kernel_rfl)
  exact ⟨errAt_of (by kernel_rfl) hv0, errAt_of (by kernel_rfl) hv1⟩

section
variable {H : Type} {enc : TypeId × Value → H} {W : World} {a : Option Addr} {len cap : Nat} {d : DataW H} {p : List MemPlace}

theorem open_strs {spare : Nat → Bool} {held : Bool} {base fuel : Nat} (h : DataW.trod enc Tryf.prog W base spare held fuel 22 (Value.slice a len cap).cells.toList = some (d, p)) :
    len ≤ 9223372036854775807 ∧ ∃ f, Strs W a len f := by
  rcases open_strings Tryf.underlying22 Tryf.underlying9 (by kernel_rfl) h with ⟨hcs, _⟩ | ⟨x, l, c, ss, hcs, _, hl, hm, hz, _, hcell, hws⟩
  · simp [Value.cells] at hcs
    obtain ⟨rfl, rfl, rfl⟩ := hcs
    exact ⟨by omega, fun _ => ⟨#[]⟩, fun i hi => by omega⟩
  · simp [Value.cells] at hcs
    obtain ⟨rfl, rfl, rfl⟩ := hcs
    have hlen : len ≤ ss.length := by rw [hz]; split <;> omega
    refine ⟨by unfold maxLen at hm; omega, fun i => ss.getD i ByteArray.empty, fun i hi => ⟨x, rfl, hcell i (by omega), ?_⟩⟩
    have hmem : ss.getD i ByteArray.empty ∈ ss := by
      rw [List.getD_eq_getElem?_getD, List.getElem?_eq_getElem (by omega)]
      exact List.getElem_mem _
    have := hws _ hmem
    unfold maxLen at this
    omega
theorem open_bits {held : Bool} {base fuel : Nat} (h : DataW.trod enc Tryf.prog W base (fun _ => true) held fuel 23 (Value.slice a len cap).cells.toList = some (d, p)) :
    len ≤ 9223372036854775807 ∧ ∃ f, Bits W a len f := by
  rcases Deep.open_bools Tryf.underlying23 Tryf.underlying4 (by kernel_rfl) h with ⟨hcs, _⟩ | ⟨x, l, c, B, hcs, _, hl, hm, _, hcell⟩
  · simp [Value.cells] at hcs
    obtain ⟨rfl, rfl, rfl⟩ := hcs
    exact ⟨by omega, fun _ => false, fun i hi => by omega⟩
  · simp [Value.cells] at hcs
    obtain ⟨rfl, rfl, rfl⟩ := hcs
    exact ⟨by unfold maxLen at hm; omega, B, fun i hi => ⟨x, rfl, hcell i (by omega)⟩⟩
theorem open_len {spare : Nat → Bool} {held : Bool} {base fuel : Nat} (h : DataW.trod enc Tryf.prog W base spare held fuel 24 (Value.slice a len cap).cells.toList = some (d, p)) :
    len ≤ 9223372036854775807 := by
  rcases DataW.trod_slice Tryf.underlying24 h with ⟨hcs, _⟩ | ⟨x, l, c, elems, rest, n, _, hcs, _, hb, hl, hm, _⟩
  · simp [Value.cells] at hcs
    omega
  · simp [Value.cells] at hcs
    obtain ⟨_, rfl, rfl⟩ := hcs
    unfold maxLen at hm
    omega
end
end Go.Proofs.Qxb6629031aFmt
