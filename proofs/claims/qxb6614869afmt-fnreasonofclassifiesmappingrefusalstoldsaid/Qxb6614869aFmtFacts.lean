/-
  THE CLOSED FACTS FOR fmt.Sprintf's STOP at this program: function 20; the three formats on the road; operands of types 3 (int), 5 (uint8), 42 (uint16), 37 (*RefusedError). After the kit's NoteopFmt.
-/
import Derived.Test.Qxb6614869aFmtRows
import Derived.Stop.CallBack
import Derived.Stop.IfaceNil
import Derived.Stop.FmtTextKit
import GoSem.ClaimData
namespace Go.Proofs.Qxb6614869aFmt
open Go.Extern.Stop Go.Stop Go.Extern

theorem Tryf.call20 (args : Array Value) (w : World) : (callFunc 20 args).run Tryf.prog w = (FmtCalls.sprintf #[9, 72] #[9] args).run Tryf.prog w :=
  run_callFunc_next Tryf.func20 (by kernel_rfl) (by kernel_rfl) (by kernel_rfl) args w
theorem Tryf.guard (name : String) (w : World) : (FmtStop.guard name).run Tryf.prog w = .ok () w := by kernel_rfl
theorem Tryf.nextTurns : Extern.next FmtCalls.turnsRow = some (FmtCalls.begun #[] #[]) := by kernel_rfl
theorem Tryf.nextReturned : Extern.next FmtCalls.returnedRow = some (FmtCalls.returned #[] #[]) := by kernel_rfl
theorem Tryf.fmt0 : FmtStop.printed? ⟨#[110, 101, 101, 100, 32, 37, 100, 32, 98, 121, 116, 101, 115, 32, 97, 116, 32, 111, 102, 102, 115, 101, 116, 32, 37, 100, 44, 32, 104, 97, 118, 101, 32, 37, 100]⟩ 3 = some [(0, 100, false), (1, 100, false), (2, 100, false)] := by kernel_rfl
theorem Tryf.fmt0r (w : World) : (FmtDoors.printed ⟨#[110, 101, 101, 100, 32, 37, 100, 32, 98, 121, 116, 101, 115, 32, 97, 116, 32, 111, 102, 102, 115, 101, 116, 32, 37, 100, 44, 32, 104, 97, 118, 101, 32, 37, 100]⟩ 3).run Tryf.prog w = .ok [(0, 100, false), (1, 100, false), (2, 100, false)] w := by kernel_rfl
theorem Tryf.fmt1 : FmtStop.printed? ⟨#[98, 121, 116, 101, 32, 48, 120, 37, 48, 50, 120, 32, 119, 104, 101, 114, 101, 32, 37, 113, 32, 98, 101, 108, 111, 110, 103, 115]⟩ 2 = some [(0, 120, false), (1, 113, false)] := by kernel_rfl
theorem Tryf.fmt1r (w : World) : (FmtDoors.printed ⟨#[98, 121, 116, 101, 32, 48, 120, 37, 48, 50, 120, 32, 119, 104, 101, 114, 101, 32, 37, 113, 32, 98, 101, 108, 111, 110, 103, 115]⟩ 2).run Tryf.prog w = .ok [(0, 120, false), (1, 113, false)] w := by kernel_rfl
theorem Tryf.fmt2 : FmtStop.printed? ⟨#[101, 110, 116, 114, 121, 32, 97, 116, 32, 111, 102, 102, 115, 101, 116, 32, 37, 100, 32, 111, 102, 32, 97, 32, 37, 100, 45, 98, 121, 116, 101, 32, 109, 97, 112, 112, 105, 110, 103, 58, 32, 37, 118]⟩ 3 = some [(0, 100, false), (1, 100, false), (2, 118, false)] := by kernel_rfl
theorem Tryf.fmt2r (w : World) : (FmtDoors.printed ⟨#[101, 110, 116, 114, 121, 32, 97, 116, 32, 111, 102, 102, 115, 101, 116, 32, 37, 100, 32, 111, 102, 32, 97, 32, 37, 100, 45, 98, 121, 116, 101, 32, 109, 97, 112, 112, 105, 110, 103, 58, 32, 37, 118]⟩ 3).run Tryf.prog w = .ok [(0, 100, false), (1, 100, false), (2, 118, false)] w := by kernel_rfl
def Tryf.shape3 : List UInt8 := [5, 3, 0, 0, 0, 0, 0, 0, 0, 105, 110, 116]
theorem Tryf.act3_100 (name : String) (x : Value) (w : World) : (FmtCalls.act name false 100 false (.iface 3 x)).run Tryf.prog w = .ok (.closed false) w := by kernel_rfl
theorem Tryf.op3_100 (name : String) (x : Int) (w : World) : (FmtStop.operand name false 100 false (.iface 3 (.int .i64 x))).run Tryf.prog w = .ok (Tryf.shape3, Go.Extern.Stop.digits 8 (x % 2 ^ 64).toNat) w := by kernel_rfl
def Tryf.shape5 : List UInt8 := [6, 5, 0, 0, 0, 0, 0, 0, 0, 117, 105, 110, 116, 56]
theorem Tryf.act5_120 (name : String) (x : Value) (w : World) : (FmtCalls.act name false 120 false (.iface 5 x)).run Tryf.prog w = .ok (.closed false) w := by kernel_rfl
theorem Tryf.op5_120 (name : String) (x : Int) (w : World) : (FmtStop.operand name false 120 false (.iface 5 (.int .u8 x))).run Tryf.prog w = .ok (Tryf.shape5, Go.Extern.Stop.digits 8 (x % 2 ^ 64).toNat) w := by kernel_rfl
theorem Tryf.act5_113 (name : String) (x : Value) (w : World) : (FmtCalls.act name false 113 false (.iface 5 x)).run Tryf.prog w = .ok (.closed false) w := by kernel_rfl
theorem Tryf.op5_113 (name : String) (x : Int) (w : World) : (FmtStop.operand name false 113 false (.iface 5 (.int .u8 x))).run Tryf.prog w = .ok (Tryf.shape5, Go.Extern.Stop.digits 8 (x % 2 ^ 64).toNat) w := by kernel_rfl
def Tryf.shape42 : List UInt8 := [7, 6, 0, 0, 0, 0, 0, 0, 0, 117, 105, 110, 116, 49, 54]
theorem Tryf.act42_100 (name : String) (x : Value) (w : World) : (FmtCalls.act name false 100 false (.iface 42 x)).run Tryf.prog w = .ok (.closed false) w := by kernel_rfl
theorem Tryf.op42_100 (name : String) (x : Int) (w : World) : (FmtStop.operand name false 100 false (.iface 42 (.int .u16 x))).run Tryf.prog w = .ok (Tryf.shape42, Go.Extern.Stop.digits 8 (x % 2 ^ 64).toNat) w := by kernel_rfl

theorem Tryf.act37_118 (name : String) (x : Value) (w : World) : (FmtCalls.act name false 118 false (.iface 37 x)).run Tryf.prog w = .ok (.call true) w := by kernel_rfl
theorem Tryf.isError37 (w : World) : (FmtDoors.textMethod 37 "Error").run Tryf.prog w = .ok true w := by kernel_rfl
theorem Tryf.invokeError37 (x : Value) (w : World) : (invoke (.fn (.method "Error") #[]) #[.iface 37 x]).run Tryf.prog w = .ok (.enter 43 #[x]) w := by kernel_rfl
theorem Tryf.str37 (w : World) : (typeStr 37).run Tryf.prog w = .ok Tryf.t37.str w := by kernel_rfl

end Go.Proofs.Qxb6614869aFmt
