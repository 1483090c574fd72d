/-
  The closed facts for a walk over the stopped front fmt.errorf, at this program's numbers; fmt.Errorf at Plain's format gives a non-nil error.
-/
import Derived.Test.Qxb6629031aFmtRows
import Derived.Stop.CallBack
import Derived.Stop.IfaceNil
import GoSem.ClaimData
import Derived.WalkKit
import Derived.WalkSpells
import Derived.WalkLawsBesides
import Derived.Handy
namespace Go.Proofs.Qxb6629031aFmt
open Go.RowKit Go.Extern.Stop Go.Stop Go.Extern

theorem call18 (args : Array Value) (w : World) : (callFunc 18 args).run Tryf.prog w = ((FmtStop.errorf #[9, 51] #[34] args).run Tryf.prog w).andThen fun v w' => .ok (.value v) w' :=
  run_callFunc_extern Tryf.func18 (by kernel_rfl) (by kernel_rfl) (by kernel_rfl) (by kernel_rfl) args w
theorem guardF (name : String) (w : World) : (FmtStop.guard name).run Tryf.prog w = .ok () w := by kernel_rfl
theorem fmt0 (w : World) : (FmtDoors.printed ⟨#[116, 97, 115, 107, 32, 37, 113, 32, 105, 115, 32, 110, 111, 116, 32, 111, 110, 32, 97, 32, 108, 105, 110, 101, 32, 111, 102, 32, 105, 116, 115, 32, 111, 119, 110, 32, 97, 102, 116, 101, 114, 32, 108, 105, 110, 101, 32, 37, 100]⟩ 2).run Tryf.prog w = .ok [(0, 113, false), (1, 100, false)] w := by kernel_rfl
def shape9 : List UInt8 := [12, 6, 0, 0, 0, 0, 0, 0, 0, 115, 116, 114, 105, 110, 103]
theorem op9_113w (name : String) (x : ByteArray) (w : World) : (FmtStop.operand name true 113 false (.iface 9 (.string x))).run Tryf.prog w = .ok (shape9, FmtStop.pack x.data.toList) w := by kernel_rfl
def shape3 : List UInt8 := [5, 3, 0, 0, 0, 0, 0, 0, 0, 105, 110, 116]
theorem op3_100w (name : String) (x : Int) (w : World) : (FmtStop.operand name true 100 false (.iface 3 (.int .i64 x))).run Tryf.prog w = .ok (shape3, Go.Extern.Stop.digits 8 (x % 2 ^ 64).toNat) w := by kernel_rfl
theorem ptr60 (w : World) : (FmtStop.ptrTo "errors.errorString").run Tryf.prog w = .ok 60 w := by kernel_rfl
theorem elem60 (w : World) : (elemOf 60).run Tryf.prog w = .ok 62 w := by kernel_rfl
attribute [local go_sem] call18 guardF fmt0 op9_113w op3_100w ptr60 elem60

/-- A returned error that is not nil; below the heap's old size nothing has turned. -/
def GivesErr (w : World) (e : Ending) (w' : World) : Prop := (∃ a : Addr, e = .returned (.iface 60 (.pointer (some a)))) ∧ Below w.heap.size w w'

theorem errorf_any (F : Interp) (nm : ByteArray) (x : Int) (b : Nat) (w : World) (hF : F.answers w.tape)
    (h0 : w.cell? ⟨b, 0, none⟩ = some (.iface 9 (.string nm))) (h1 : w.cell? ⟨b, 1, none⟩ = some (.iface 3 (.int .i64 x))) :
    Calls Tryf.prog 15 #[.string ⟨#[116, 97, 115, 107, 32, 37, 113, 32, 105, 115, 32, 110, 111, 116, 32, 111, 110, 32, 97, 32, 108, 105, 110, 101, 32, 111, 102, 32, 105, 116, 115, 32, 111, 119, 110, 32, 97, 102, 116, 101, 114, 32, 108, 105, 110, 101, 32, 37, 100]⟩, .slice (some ⟨b, 0, none⟩) 2 2] w fun e w' => GivesErr w e w' := by
  have hF' := answers_open hF
  go_enter Tryf.func15, Tryf.ntmps15
  go_wp2
  go_ret
  refine ⟨⟨_, rfl⟩, ?_⟩
  go_grown
end Go.Proofs.Qxb6629031aFmt
