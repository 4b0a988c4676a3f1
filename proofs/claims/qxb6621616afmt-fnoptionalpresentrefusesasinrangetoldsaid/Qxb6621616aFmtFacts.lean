/-
  THE CLOSED FACTS FOR A WALK OVER fmt's STOPPED FRONT 'fmt.errorf' in this dump (after the guide's CheckFmt.lean, at this dump's numbers). Each is proved by the kernel's own evaluation.
-/
import Derived.Test.Qxb6621616aFmtProg
import Derived.Stop.CallBack
import Derived.Stop.IfaceNil
import GoSem.ClaimData
namespace Go.Proofs.Qxb6621616aFmt
open Go.Extern.Stop Go.Stop Go.Extern

-- fmt.errorf: function 12: a plain stop
theorem call12 (args : Array Value) (w : World) : (callFunc 12 args).run Tryf.prog w = ((FmtStop.errorf #[9, 34] #[24] args).run Tryf.prog w).andThen fun v w' => .ok (.value v) w' :=
  run_callFunc_extern Tryf.func12 (by kernel_rfl) (by kernel_rfl) (by kernel_rfl) (by kernel_rfl) args w

theorem guard (name : String) (w : World) : (FmtStop.guard name).run Tryf.prog w = .ok () w := by kernel_rfl

-- the format of 'optional': one operand
theorem fmt0 : FmtStop.printed? ⟨#[37, 115, 32, 105, 115, 32, 98, 101, 108, 111, 119, 32, 49]⟩ 1 = some [(0, 115, false)] := by kernel_rfl
theorem fmt0r (w : World) : (FmtDoors.printed ⟨#[37, 115, 32, 105, 115, 32, 98, 101, 108, 111, 119, 32, 49]⟩ 1).run Tryf.prog w = .ok [(0, 115, false)] w := by kernel_rfl
-- the first format of 'inRange': one operand
theorem fmt1 : FmtStop.printed? ⟨#[37, 115, 32, 105, 115, 32, 109, 105, 115, 115, 105, 110, 103, 32, 111, 114, 32, 98, 101, 108, 111, 119, 32, 49]⟩ 1 = some [(0, 115, false)] := by kernel_rfl
theorem fmt1r (w : World) : (FmtDoors.printed ⟨#[37, 115, 32, 105, 115, 32, 109, 105, 115, 115, 105, 110, 103, 32, 111, 114, 32, 98, 101, 108, 111, 119, 32, 49]⟩ 1).run Tryf.prog w = .ok [(0, 115, false)] w := by kernel_rfl
-- the second format of 'inRange': two operands
theorem fmt2 : FmtStop.printed? ⟨#[37, 115, 32, 105, 115, 32, 97, 98, 111, 118, 101, 32, 37, 100]⟩ 2 = some [(0, 115, false), (1, 100, false)] := by kernel_rfl
theorem fmt2r (w : World) : (FmtDoors.printed ⟨#[37, 115, 32, 105, 115, 32, 97, 98, 111, 118, 101, 32, 37, 100]⟩ 2).run Tryf.prog w = .ok [(0, 115, false), (1, 100, false)] w := by kernel_rfl

-- what each operand type reads as
def shape9 : List UInt8 := [12, 6, 0, 0, 0, 0, 0, 0, 0, 115, 116, 114, 105, 110, 103]
theorem op9w (name : String) (x : ByteArray) (w : World) : (FmtStop.operand name true 115 false (.iface 9 (.string x))).run Tryf.prog w = .ok (shape9, FmtStop.pack x.data.toList) w := by kernel_rfl
theorem op9 (name : String) (x : ByteArray) (w : World) : (FmtStop.operand name false 115 false (.iface 9 (.string x))).run Tryf.prog w = .ok (shape9, FmtStop.pack x.data.toList) w := by kernel_rfl
def shape3 : List UInt8 := [5, 3, 0, 0, 0, 0, 0, 0, 0, 105, 110, 116]
theorem op3w (name : String) (x : Int) (w : World) : (FmtStop.operand name true 100 false (.iface 3 (.int .i64 x))).run Tryf.prog w = .ok (shape3, Go.Extern.Stop.digits 8 (x % 2 ^ 64).toNat) w := by kernel_rfl
theorem op3 (name : String) (x : Int) (w : World) : (FmtStop.operand name false 100 false (.iface 3 (.int .i64 x))).run Tryf.prog w = .ok (shape3, Go.Extern.Stop.digits 8 (x % 2 ^ 64).toNat) w := by kernel_rfl

-- the error type that fmt.errorf makes here
theorem ptr37 (w : World) : (FmtStop.ptrTo "errors.errorString").run Tryf.prog w = .ok 37 w := by kernel_rfl
theorem elem37 (w : World) : (elemOf 37).run Tryf.prog w = .ok 39 w := by kernel_rfl
theorem isError37 (w : World) : (FmtDoors.textMethod 37 "Error").run Tryf.prog w = .ok true w := by kernel_rfl

end Go.Proofs.Qxb6621616aFmt
