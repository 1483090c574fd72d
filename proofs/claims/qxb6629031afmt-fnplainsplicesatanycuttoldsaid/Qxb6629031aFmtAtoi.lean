/-
  strconv.Atoi as Plain meets it: a line number, or what Plain refuses.
-/
import Derived.Test.Qxb6629031aFmtShelf
import Derived.Test.Qxb6629031aFmtBlk
namespace Go.Proofs.Qxb6629031aFmt
open Go.RowKit
set_option linter.unusedVariables false

theorem atoi_fine (s : ByteArray) (hs : s.size ≤ 1048576) (v : Int) (h : Hid (Lib.atoiAll (bs s) = .ok v)) (w : World) :
    Calls Tryf.prog 14 #[.string s] w fun e w' => e = .returned (.tuple #[.int .i64 v, .nilIface]) ∧ Below w.heap.size w w' := by
  refine (Any.strconv_Atoi_ok Tryf.laysC172 s (by omega) v h.out w).mono ?_
  rintro e w' ⟨rfl, rfl | ⟨t, rfl⟩⟩
  · exact ⟨rfl, Below.refl _ _⟩
  · exact ⟨rfl, Lib.bytesWorld_below _ _ _⟩

/-- What the error variables of strconv hold: an interface value, or nil. -/
def ErrAt (w : World) (g : Nat) : Prop := ∃ ev, w.cell? ⟨g, 0, none⟩ = some ev ∧ (ev = .nilIface ∨ ∃ te pe, ev = .iface te pe)
theorem errAt_below {w w' : World} {g : Nat} (h : ErrAt w g) (hb : Below w.heap.size w w') : ErrAt w' g := by
  obtain ⟨ev, h1, h2⟩ := h
  exact ⟨ev, keep_cell hb h1, h2⟩

theorem atoi_bad (s : ByteArray) (hs : s.size ≤ 1048576) (h : Hid (∀ v, Lib.atoiAll (bs s) ≠ .ok v)) (w : World) (h0 : ErrAt w 0) (h1 : ErrAt w 1) :
    Calls Tryf.prog 14 #[.string s] w fun e w' => (∃ (x : Int) (a : Addr), e = .returned (.tuple #[.int .i64 x, .iface 57 (.pointer (some a))])) ∧ Below w.heap.size w w' := by
  obtain ⟨e0, p0, q0⟩ := h0
  obtain ⟨e1, p1, q1⟩ := h1
  cases hv : Lib.atoiAll (bs s) with
  | ok v => exact absurd hv (h.out v)
  | range =>
    refine (Any.strconv_Atoi_range Tryf.laysC172 s (by omega) hv e1 w p1 q1).mono ?_
    rintro e w' ⟨N, rfl, _, _, hb⟩
    exact ⟨⟨_, _, rfl⟩, hb⟩
  | _ =>
    refine (Any.strconv_Atoi_syntax Tryf.laysC172 s (by omega) hv e0 w p0 q0).mono ?_
    rintro e w' ⟨N, rfl, _, _, hb⟩
    exact ⟨⟨_, _, rfl⟩, hb⟩
end Go.Proofs.Qxb6629031aFmt
