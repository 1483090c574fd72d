/-
  The closed facts for a walk over the stopped front fmt.errorf, at this program's numbers. After the guide's worked family Check.
-/
import Derived.Test.Qxb6628474aFmtRows
import Derived.Stop.CallBack
import Derived.Stop.IfaceNil
import GoSem.ClaimData
namespace Go.Proofs.Qxb6628474aFmt
open Go.Extern.Stop Go.Stop Go.Extern

theorem call19 (args : Array Value) (w : World) : (callFunc 19 args).run Tryf.prog w = ((FmtStop.errorf #[9, 42] #[25] args).run Tryf.prog w).andThen fun v w' => .ok (.value v) w' :=
  run_callFunc_extern Tryf.func19 (by kernel_rfl) (by kernel_rfl) (by kernel_rfl) (by kernel_rfl) args w

theorem guardF (name : String) (w : World) : (FmtStop.guard name).run Tryf.prog w = .ok () w := by kernel_rfl

theorem fmt0 (w : World) : (FmtDoors.printed ⟨#[37, 115, 32, 105, 115, 32, 99, 117, 116, 32, 115, 104, 111, 114, 116, 32, 97, 116, 32, 98, 121, 116, 101, 32, 37, 100]⟩ 2).run Tryf.prog w = .ok [(0, 115, false), (1, 100, false)] w := by kernel_rfl
theorem fmt1 (w : World) : (FmtDoors.printed ⟨#[37, 115, 32, 105, 115, 32, 110, 111, 116, 32, 119, 101, 108, 108, 45, 102, 111, 114, 109, 101, 100, 32, 67, 66, 79, 82, 32, 97, 116, 32, 98, 121, 116, 101, 32, 37, 100]⟩ 2).run Tryf.prog w = .ok [(0, 115, false), (1, 100, false)] w := by kernel_rfl
theorem fmt2 (w : World) : (FmtDoors.printed ⟨#[37, 115, 32, 104, 97, 115, 32, 97, 110, 32, 105, 116, 101, 109, 32, 111, 102, 32, 105, 110, 100, 101, 102, 105, 110, 105, 116, 101, 32, 108, 101, 110, 103, 116, 104, 32, 97, 116, 32, 98, 121, 116, 101, 32, 37, 100]⟩ 2).run Tryf.prog w = .ok [(0, 115, false), (1, 100, false)] w := by kernel_rfl
theorem fmt3 (w : World) : (FmtDoors.printed ⟨#[37, 115, 32, 104, 97, 115, 32, 97, 32, 102, 108, 111, 97, 116, 105, 110, 103, 45, 112, 111, 105, 110, 116, 32, 110, 117, 109, 98, 101, 114, 32, 97, 116, 32, 98, 121, 116, 101, 32, 37, 100]⟩ 2).run Tryf.prog w = .ok [(0, 115, false), (1, 100, false)] w := by kernel_rfl
theorem fmt4 (w : World) : (FmtDoors.printed ⟨#[37, 115, 32, 119, 114, 105, 116, 101, 115, 32, 37, 100, 32, 97, 116, 32, 98, 121, 116, 101, 32, 37, 100, 32, 105, 110, 32, 97, 32, 37, 100, 45, 98, 121, 116, 101, 32, 104, 101, 97, 100, 44, 32, 119, 104, 101, 114, 101, 32, 97, 32, 37, 100, 45, 98, 121, 116, 101, 32, 111, 110, 101, 32, 104, 111, 108, 100, 115, 32, 105, 116]⟩ 5).run Tryf.prog w = .ok [(0, 115, false), (1, 100, false), (2, 100, false), (3, 100, false), (4, 100, false)] w := by kernel_rfl
theorem fmt5 (w : World) : (FmtDoors.printed ⟨#[37, 115, 32, 104, 97, 115, 32, 67, 66, 79, 82, 32, 109, 97, 106, 111, 114, 32, 116, 121, 112, 101, 32, 37, 100, 44, 32, 119, 97, 110, 116, 32, 37, 100]⟩ 3).run Tryf.prog w = .ok [(0, 115, false), (1, 100, false), (2, 100, false)] w := by kernel_rfl
theorem fmt6 (w : World) : (FmtDoors.printed ⟨#[37, 115, 32, 104, 111, 108, 100, 115, 32, 37, 100, 32, 98, 121, 116, 101, 115, 32, 119, 104, 101, 114, 101, 32, 105, 116, 115, 32, 104, 101, 97, 100, 32, 115, 97, 121, 115, 32, 37, 100]⟩ 3).run Tryf.prog w = .ok [(0, 115, false), (1, 100, false), (2, 100, false)] w := by kernel_rfl

def shape9 : List UInt8 := [12, 6, 0, 0, 0, 0, 0, 0, 0, 115, 116, 114, 105, 110, 103]
theorem op9_115w (name : String) (x : ByteArray) (w : World) : (FmtStop.operand name true 115 false (.iface 9 (.string x))).run Tryf.prog w = .ok (shape9, FmtStop.pack x.data.toList) w := by kernel_rfl
def shape3 : List UInt8 := [5, 3, 0, 0, 0, 0, 0, 0, 0, 105, 110, 116]
theorem op3_100w (name : String) (x : Int) (w : World) : (FmtStop.operand name true 100 false (.iface 3 (.int .i64 x))).run Tryf.prog w = .ok (shape3, Go.Extern.Stop.digits 8 (x % 2 ^ 64).toNat) w := by kernel_rfl
def shape34 : List UInt8 := FmtStop.intCode .u64 :: FmtStop.pack [117, 105, 110, 116, 54, 52]
theorem op34_100w (name : String) (x : Int) (w : World) : (FmtStop.operand name true 100 false (.iface 34 (.int .u64 x))).run Tryf.prog w = .ok (shape34, Go.Extern.Stop.digits 8 (x % 2 ^ 64).toNat) w := by kernel_rfl
def shape33 : List UInt8 := FmtStop.intCode .u8 :: FmtStop.pack [115, 116, 114, 105, 99, 116, 99, 98, 111, 114, 46, 77, 97, 106, 111, 114]
theorem op33_100w (name : String) (x : Int) (w : World) : (FmtStop.operand name true 100 false (.iface 33 (.int .u8 x))).run Tryf.prog w = .ok (shape33, Go.Extern.Stop.digits 8 (x % 2 ^ 64).toNat) w := by kernel_rfl

theorem ptr45 (w : World) : (FmtStop.ptrTo "errors.errorString").run Tryf.prog w = .ok 45 w := by kernel_rfl
theorem elem45 (w : World) : (elemOf 45).run Tryf.prog w = .ok 47 w := by kernel_rfl

end Go.Proofs.Qxb6628474aFmt
