/-
  The closed facts for a walk over the stopped function fmt.errorf (function 20 of this dump), after the guide's NameFmt texts.
-/
import Derived.Test.Qxb6616560aFmtProg
import Derived.Stop.CallBack
import Derived.Stop.IfaceNil
import GoSem.ClaimData
namespace Go.Proofs
open Go.Extern.Stop Go.Stop Go.Extern

theorem Tryf.call20 (args : Array Value) (w : World) : (callFunc 20 args).run Tryf.prog w = ((FmtStop.errorf #[9, 49] #[27] args).run Tryf.prog w).andThen fun v w' => .ok (.value v) w' :=
  run_callFunc_extern Tryf.func20 (by kernel_rfl) (by kernel_rfl) (by kernel_rfl) (by kernel_rfl) args w

theorem Tryf.guard (name : String) (w : World) : (FmtStop.guard name).run Tryf.prog w = .ok () w := by kernel_rfl

theorem Tryf.fmt0 : FmtStop.printed? ⟨#[37, 115, 32, 105, 115, 32, 99, 117, 116, 32, 115, 104, 111, 114, 116, 44, 32, 116, 111, 111, 32, 108, 111, 110, 103, 32, 111, 114, 32, 112, 97, 100, 100, 101, 100]⟩ 1 = some [(0, 115, false)] := by kernel_rfl
theorem Tryf.fmt0r (w : World) : (FmtDoors.printed ⟨#[37, 115, 32, 105, 115, 32, 99, 117, 116, 32, 115, 104, 111, 114, 116, 44, 32, 116, 111, 111, 32, 108, 111, 110, 103, 32, 111, 114, 32, 112, 97, 100, 100, 101, 100]⟩ 1).run Tryf.prog w = .ok [(0, 115, false)] w := by kernel_rfl
theorem Tryf.fmt1 : FmtStop.printed? ⟨#[97, 110, 32, 101, 110, 116, 114, 121, 32, 102, 111, 114, 32, 112, 114, 111, 99, 101, 115, 115, 32, 37, 100, 32, 43, 32, 37, 100, 32, 105, 115, 32, 97, 116, 32, 111, 114, 32, 112, 97, 115, 116, 32, 116, 104, 101, 32, 108, 105, 109, 105, 116, 32, 111, 102, 32, 37, 100, 32, 112, 114, 111, 99, 101, 115, 115, 101, 115]⟩ 3 = some [(0, 100, false), (1, 100, false), (2, 100, false)] := by kernel_rfl
theorem Tryf.fmt1r (w : World) : (FmtDoors.printed ⟨#[97, 110, 32, 101, 110, 116, 114, 121, 32, 102, 111, 114, 32, 112, 114, 111, 99, 101, 115, 115, 32, 37, 100, 32, 43, 32, 37, 100, 32, 105, 115, 32, 97, 116, 32, 111, 114, 32, 112, 97, 115, 116, 32, 116, 104, 101, 32, 108, 105, 109, 105, 116, 32, 111, 102, 32, 37, 100, 32, 112, 114, 111, 99, 101, 115, 115, 101, 115]⟩ 3).run Tryf.prog w = .ok [(0, 100, false), (1, 100, false), (2, 100, false)] w := by kernel_rfl

def Tryf.shape9 : List UInt8 := [12, 6, 0, 0, 0, 0, 0, 0, 0, 115, 116, 114, 105, 110, 103]
theorem Tryf.op9_115w (name : String) (x : ByteArray) (w : World) : (FmtStop.operand name true 115 false (.iface 9 (.string x))).run Tryf.prog w = .ok (Tryf.shape9, FmtStop.pack x.data.toList) w := by kernel_rfl
def Tryf.shape3 : List UInt8 := [5, 3, 0, 0, 0, 0, 0, 0, 0, 105, 110, 116]
theorem Tryf.op3_100w (name : String) (x : Int) (w : World) : (FmtStop.operand name true 100 false (.iface 3 (.int .i64 x))).run Tryf.prog w = .ok (Tryf.shape3, Go.Extern.Stop.digits 8 (x % 2 ^ 64).toNat) w := by kernel_rfl
def Tryf.shape30 : List UInt8 := FmtStop.intCode .u64 :: FmtStop.pack [117, 105, 110, 116, 54, 52]
theorem Tryf.op30_100w (name : String) (x : Int) (w : World) : (FmtStop.operand name true 100 false (.iface 30 (.int .u64 x))).run Tryf.prog w = .ok (Tryf.shape30, Go.Extern.Stop.digits 8 (x % 2 ^ 64).toNat) w := by kernel_rfl

theorem Tryf.ptr52 (w : World) : (FmtStop.ptrTo "errors.errorString").run Tryf.prog w = .ok 52 w := by kernel_rfl
theorem Tryf.elem52 (w : World) : (elemOf 52).run Tryf.prog w = .ok 54 w := by kernel_rfl
theorem Tryf.ptr51 (w : World) : (FmtStop.ptrTo "fmt.wrapError").run Tryf.prog w = .ok 51 w := by kernel_rfl
theorem Tryf.elem51 (w : World) : (elemOf 51).run Tryf.prog w = .ok 72 w := by kernel_rfl
end Go.Proofs
