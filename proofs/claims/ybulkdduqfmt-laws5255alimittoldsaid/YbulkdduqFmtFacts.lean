import Derived.Test.YbulkdduqFmtProg
import Derived.Stop.CallBack
import Derived.Stop.IfaceNil
import GoSem.ClaimData
namespace Go.Proofs
open Go.Extern.Stop Go.Stop Go.Extern

-- the closed facts for a walk over the stopped front of fmt, turned to this program
@[go_sem] theorem Ybaf.call11 (args : Array Value) (w : World) : (callFunc 11 args).run Ybaf.prog w = ((FmtStop.errorf #[9, 43] #[28] args).run Ybaf.prog w).andThen fun v w' => .ok (.value v) w' :=
  run_callFunc_extern Ybaf.func11 (by kernel_rfl) (by kernel_rfl) (by kernel_rfl) (by kernel_rfl) args w
@[go_sem] theorem Ybaf.guard (name : String) (w : World) : (FmtStop.guard name).run Ybaf.prog w = .ok () w := by kernel_rfl
@[go_sem] theorem Ybaf.fmt0 : FmtStop.printed? ⟨#[101, 110, 100, 115, 32, 101, 97, 114, 108, 121, 58, 32, 37, 100, 32, 98, 121, 116, 101, 115, 32, 110, 101, 101, 100, 101, 100, 32, 97, 116, 32, 98, 121, 116, 101, 32, 37, 100, 32, 111, 102, 32, 37, 100]⟩ 3 = some [(0, 100, false), (1, 100, false), (2, 100, false)] := by kernel_rfl
@[go_sem] theorem Ybaf.fmt0r (w : World) : (FmtDoors.printed ⟨#[101, 110, 100, 115, 32, 101, 97, 114, 108, 121, 58, 32, 37, 100, 32, 98, 121, 116, 101, 115, 32, 110, 101, 101, 100, 101, 100, 32, 97, 116, 32, 98, 121, 116, 101, 32, 37, 100, 32, 111, 102, 32, 37, 100]⟩ 3).run Ybaf.prog w = .ok [(0, 100, false), (1, 100, false), (2, 100, false)] w := by kernel_rfl
@[go_sem] theorem Ybaf.fmt1 : FmtStop.printed? ⟨#[108, 101, 110, 103, 116, 104, 32, 37, 100, 32, 105, 115, 32, 109, 111, 114, 101, 32, 116, 104, 97, 110, 32, 116, 104, 101, 32, 108, 105, 109, 105, 116, 32, 111, 102, 32, 37, 100]⟩ 2 = some [(0, 100, false), (1, 100, false)] := by kernel_rfl
@[go_sem] theorem Ybaf.fmt1r (w : World) : (FmtDoors.printed ⟨#[108, 101, 110, 103, 116, 104, 32, 37, 100, 32, 105, 115, 32, 109, 111, 114, 101, 32, 116, 104, 97, 110, 32, 116, 104, 101, 32, 108, 105, 109, 105, 116, 32, 111, 102, 32, 37, 100]⟩ 2).run Ybaf.prog w = .ok [(0, 100, false), (1, 100, false)] w := by kernel_rfl
def Ybaf.shape3 : List UInt8 := [5, 3, 0, 0, 0, 0, 0, 0, 0, 105, 110, 116]
@[go_sem] theorem Ybaf.op3_100 (name : String) (x : Int) (w : World) : (FmtStop.operand name false 100 false (.iface 3 (.int .i64 x))).run Ybaf.prog w = .ok (Ybaf.shape3, Go.Extern.Stop.digits 8 (x % 2 ^ 64).toNat) w := by kernel_rfl
@[go_sem] theorem Ybaf.op3_100w (name : String) (x : Int) (w : World) : (FmtStop.operand name true 100 false (.iface 3 (.int .i64 x))).run Ybaf.prog w = .ok (Ybaf.shape3, Go.Extern.Stop.digits 8 (x % 2 ^ 64).toNat) w := by kernel_rfl
def Ybaf.shape31 : List UInt8 := [8, 6, 0, 0, 0, 0, 0, 0, 0, 117, 105, 110, 116, 51, 50]
@[go_sem] theorem Ybaf.op31_100 (name : String) (x : Int) (w : World) : (FmtStop.operand name false 100 false (.iface 31 (.int .u32 x))).run Ybaf.prog w = .ok (Ybaf.shape31, Go.Extern.Stop.digits 8 (x % 2 ^ 64).toNat) w := by kernel_rfl
@[go_sem] theorem Ybaf.op31_100w (name : String) (x : Int) (w : World) : (FmtStop.operand name true 100 false (.iface 31 (.int .u32 x))).run Ybaf.prog w = .ok (Ybaf.shape31, Go.Extern.Stop.digits 8 (x % 2 ^ 64).toNat) w := by kernel_rfl
@[go_sem] theorem Ybaf.ptrE (w : World) : (FmtStop.ptrTo "errors.errorString").run Ybaf.prog w = .ok 46 w := by kernel_rfl
@[go_sem] theorem Ybaf.elemE (w : World) : (elemOf 46).run Ybaf.prog w = .ok 48 w := by kernel_rfl
end Go.Proofs
