/-
  The error makers of package strictcbor, and fmt.Errorf at its formats: each gives a non-nil error and writes nothing that was there.
-/
import Derived.Test.Qxb6628474aFmtFacts
import Derived.WalkKit
import Derived.WalkSpells
import Derived.WalkLawsBesides
import Derived.Handy
namespace Go.Proofs.Qxb6628474aFmt
open Go.RowKit Go.Extern.Stop Go.Stop Go.Extern
attribute [local go_sem] call19 guardF fmt0 fmt1 fmt2 fmt3 fmt4 fmt5 fmt6 op9_115w op3_100w op34_100w op33_100w ptr45 elem45

/-- A returned error that is not nil; below the heap's old size nothing has turned. -/
def GivesErr (w : World) (e : Ending) (w' : World) : Prop := (∃ a : Addr, e = .returned (.iface 45 (.pointer (some a)))) ∧ Below w.heap.size w w'

theorem cutShort_any (F : Interp) (nm : ByteArray) (n : Int) (w : World) (hF : F.answers w.tape) :
    Calls Tryf.prog 17 #[.string nm, .int .i64 n] w fun e w' => GivesErr w e w' := by
  have hF' := answers_open hF
  go_enter Tryf.func17, Tryf.ntmps17
  go_wp2
  go_ret
  refine ⟨⟨_, rfl⟩, ?_⟩
  go_grown

theorem notWell_any (F : Interp) (nm : ByteArray) (n : Int) (w : World) (hF : F.answers w.tape) :
    Calls Tryf.prog 18 #[.string nm, .int .i64 n] w fun e w' => GivesErr w e w' := by
  have hF' := answers_open hF
  go_enter Tryf.func18, Tryf.ntmps18
  go_wp2
  go_ret
  refine ⟨⟨_, rfl⟩, ?_⟩
  go_grown

theorem wrongMajor_any (F : Interp) (nm : ByteArray) (g x : Int) (w : World) (hF : F.answers w.tape) :
    Calls Tryf.prog 14 #[.string nm, .int .u8 g, .int .u8 x] w fun e w' => GivesErr w e w' := by
  have hF' := answers_open hF
  go_enter Tryf.func14, Tryf.ntmps14
  go_wp2
  go_ret
  refine ⟨⟨_, rfl⟩, ?_⟩
  go_grown

theorem errorf2 (F : Interp) (f nm : ByteArray) (x : Int) (b : Nat) (w : World) (hF : F.answers w.tape)
    (hf : ∀ w, (FmtDoors.printed f 2).run Tryf.prog w = .ok [(0, 115, false), (1, 100, false)] w)
    (h0 : w.cell? ⟨b, 0, none⟩ = some (.iface 9 (.string nm))) (h1 : w.cell? ⟨b, 1, none⟩ = some (.iface 3 (.int .i64 x))) :
    Calls Tryf.prog 15 #[.string f, .slice (some ⟨b, 0, none⟩) 2 2] w fun e w' => GivesErr w e w' := by
  have hF' := answers_open hF
  go_enter Tryf.func15, Tryf.ntmps15
  go_wp2
  go_ret
  refine ⟨⟨_, rfl⟩, ?_⟩
  go_grown

theorem errorf3 (F : Interp) (f nm : ByteArray) (x y : Int) (b : Nat) (w : World) (hF : F.answers w.tape)
    (hf : ∀ w, (FmtDoors.printed f 3).run Tryf.prog w = .ok [(0, 115, false), (1, 100, false), (2, 100, false)] w)
    (h0 : w.cell? ⟨b, 0, none⟩ = some (.iface 9 (.string nm))) (h1 : w.cell? ⟨b, 1, none⟩ = some (.iface 3 (.int .i64 x))) (h2 : w.cell? ⟨b, 2, none⟩ = some (.iface 34 (.int .u64 y))) :
    Calls Tryf.prog 15 #[.string f, .slice (some ⟨b, 0, none⟩) 3 3] w fun e w' => GivesErr w e w' := by
  have hF' := answers_open hF
  go_enter Tryf.func15, Tryf.ntmps15
  go_wp2
  go_ret
  refine ⟨⟨_, rfl⟩, ?_⟩
  go_grown

theorem errorf5 (F : Interp) (f nm : ByteArray) (x y z t : Int) (b : Nat) (w : World) (hF : F.answers w.tape)
    (hf : ∀ w, (FmtDoors.printed f 5).run Tryf.prog w = .ok [(0, 115, false), (1, 100, false), (2, 100, false), (3, 100, false), (4, 100, false)] w)
    (h0 : w.cell? ⟨b, 0, none⟩ = some (.iface 9 (.string nm))) (h1 : w.cell? ⟨b, 1, none⟩ = some (.iface 34 (.int .u64 x))) (h2 : w.cell? ⟨b, 2, none⟩ = some (.iface 3 (.int .i64 y)))
    (h3 : w.cell? ⟨b, 3, none⟩ = some (.iface 3 (.int .i64 z))) (h4 : w.cell? ⟨b, 4, none⟩ = some (.iface 3 (.int .i64 t))) :
    Calls Tryf.prog 15 #[.string f, .slice (some ⟨b, 0, none⟩) 5 5] w fun e w' => GivesErr w e w' := by
  have hF' := answers_open hF
  go_enter Tryf.func15, Tryf.ntmps15
  go_wp2
  go_ret
  refine ⟨⟨_, rfl⟩, ?_⟩
  go_grown

end Go.Proofs.Qxb6628474aFmt
