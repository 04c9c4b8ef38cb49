/-
  THE CLOSED FACTS FOR A WALK OVER fmt.Errorf AT THIS PROGRAM's NUMBERS, in the form of the kit's generated facts (the generator is not here): each by the kernel's evaluation.
-/
import Derived.Test.YbulkauvkFmtKey
import Derived.Stop.CallBack
import Derived.Stop.IfaceNil
import GoSem.ClaimData
namespace Go.Proofs.YbulkauvkFmt
open Go.RowKit Go.Extern.Stop Go.Stop Go.Extern

theorem call17 (args : Array Value) (w : World) : (callFunc 17 args).run Ybaf.prog w = ((FmtStop.errorf #[9, 107] #[45] args).run Ybaf.prog w).andThen fun v w' => .ok (.value v) w' :=
  run_callFunc_extern Ybaf.func17 (by kernel_rfl) (by kernel_rfl) (by kernel_rfl) (by kernel_rfl) args w
theorem guardF (name : String) (w : World) : (FmtStop.guard name).run Ybaf.prog w = .ok () w := by kernel_rfl
def fmtA : ByteArray := ⟨#[37, 115, 32, 37, 115, 32, 104, 97, 115, 32, 116, 119, 111, 32, 83, 73, 68, 115, 44, 32, 37, 100, 32, 97, 110, 100, 32, 37, 100]⟩
theorem fmtAp : FmtStop.printed? ⟨#[37, 115, 32, 37, 115, 32, 104, 97, 115, 32, 116, 119, 111, 32, 83, 73, 68, 115, 44, 32, 37, 100, 32, 97, 110, 100, 32, 37, 100]⟩ 4 = some [(0, 115, false), (1, 115, false), (2, 100, false), (3, 100, false)] := by kernel_rfl
theorem fmtAr (w : World) : (FmtDoors.printed ⟨#[37, 115, 32, 37, 115, 32, 104, 97, 115, 32, 116, 119, 111, 32, 83, 73, 68, 115, 44, 32, 37, 100, 32, 97, 110, 100, 32, 37, 100]⟩ 4).run Ybaf.prog w = .ok [(0, 115, false), (1, 115, false), (2, 100, false), (3, 100, false)] w := by kernel_rfl
theorem fmtAp0 : FmtStop.printed? ⟨#[37, 115, 32, 37, 115, 32, 104, 97, 115, 32, 116, 119, 111, 32, 83, 73, 68, 115, 44, 32, 37, 100, 32, 97, 110, 100, 32, 37, 100]⟩ 0 = some [] := by kernel_rfl
theorem fmtAr0 (w : World) : (FmtDoors.printed ⟨#[37, 115, 32, 37, 115, 32, 104, 97, 115, 32, 116, 119, 111, 32, 83, 73, 68, 115, 44, 32, 37, 100, 32, 97, 110, 100, 32, 37, 100]⟩ 0).run Ybaf.prog w = .ok [] w := by kernel_rfl
def fmtB : ByteArray := ⟨#[83, 73, 68, 32, 37, 100, 32, 105, 115, 32, 97, 115, 115, 105, 103, 110, 101, 100, 32, 116, 111, 32, 37, 115, 32, 37, 115, 32, 97, 110, 100, 32, 116, 111, 32, 37, 115, 32, 37, 115]⟩
theorem fmtBp : FmtStop.printed? ⟨#[83, 73, 68, 32, 37, 100, 32, 105, 115, 32, 97, 115, 115, 105, 103, 110, 101, 100, 32, 116, 111, 32, 37, 115, 32, 37, 115, 32, 97, 110, 100, 32, 116, 111, 32, 37, 115, 32, 37, 115]⟩ 5 = some [(0, 100, false), (1, 115, false), (2, 115, false), (3, 115, false), (4, 115, false)] := by kernel_rfl
theorem fmtBr (w : World) : (FmtDoors.printed ⟨#[83, 73, 68, 32, 37, 100, 32, 105, 115, 32, 97, 115, 115, 105, 103, 110, 101, 100, 32, 116, 111, 32, 37, 115, 32, 37, 115, 32, 97, 110, 100, 32, 116, 111, 32, 37, 115, 32, 37, 115]⟩ 5).run Ybaf.prog w = .ok [(0, 100, false), (1, 115, false), (2, 115, false), (3, 115, false), (4, 115, false)] w := by kernel_rfl
theorem fmtBp0 : FmtStop.printed? ⟨#[83, 73, 68, 32, 37, 100, 32, 105, 115, 32, 97, 115, 115, 105, 103, 110, 101, 100, 32, 116, 111, 32, 37, 115, 32, 37, 115, 32, 97, 110, 100, 32, 116, 111, 32, 37, 115, 32, 37, 115]⟩ 0 = some [] := by kernel_rfl
theorem fmtBr0 (w : World) : (FmtDoors.printed ⟨#[83, 73, 68, 32, 37, 100, 32, 105, 115, 32, 97, 115, 115, 105, 103, 110, 101, 100, 32, 116, 111, 32, 37, 115, 32, 37, 115, 32, 97, 110, 100, 32, 116, 111, 32, 37, 115, 32, 37, 115]⟩ 0).run Ybaf.prog w = .ok [] w := by kernel_rfl
def shape9 : List UInt8 := [12, 6, 0, 0, 0, 0, 0, 0, 0, 115, 116, 114, 105, 110, 103]
def shape41 : List UInt8 := FmtStop.intCode .u64 :: [6, 0, 0, 0, 0, 0, 0, 0, 117, 105, 110, 116, 54, 52]
theorem op9_115 (name : String) (x : ByteArray) (w : World) : (FmtStop.operand name false 115 false (.iface 9 (.string x))).run Ybaf.prog w = .ok (shape9, FmtStop.pack x.data.toList) w := by kernel_rfl
theorem op41_115 (name : String) (x : Int) (w : World) : (FmtStop.operand name false 115 false (.iface 41 (.int .u64 x))).run Ybaf.prog w = .ok (shape41, Go.Extern.Stop.digits 8 (x % 2 ^ 64).toNat) w := by kernel_rfl
theorem op9_118 (name : String) (x : ByteArray) (w : World) : (FmtStop.operand name false 118 false (.iface 9 (.string x))).run Ybaf.prog w = .ok (shape9, FmtStop.pack x.data.toList) w := by kernel_rfl
theorem op41_118 (name : String) (x : Int) (w : World) : (FmtStop.operand name false 118 false (.iface 41 (.int .u64 x))).run Ybaf.prog w = .ok (shape41, Go.Extern.Stop.digits 8 (x % 2 ^ 64).toNat) w := by kernel_rfl
theorem op9_100 (name : String) (x : ByteArray) (w : World) : (FmtStop.operand name false 100 false (.iface 9 (.string x))).run Ybaf.prog w = .ok (shape9, FmtStop.pack x.data.toList) w := by kernel_rfl
theorem op41_100 (name : String) (x : Int) (w : World) : (FmtStop.operand name false 100 false (.iface 41 (.int .u64 x))).run Ybaf.prog w = .ok (shape41, Go.Extern.Stop.digits 8 (x % 2 ^ 64).toNat) w := by kernel_rfl
theorem op9_115w (name : String) (x : ByteArray) (w : World) : (FmtStop.operand name true 115 false (.iface 9 (.string x))).run Ybaf.prog w = .ok (shape9, FmtStop.pack x.data.toList) w := by kernel_rfl
theorem op41_115w (name : String) (x : Int) (w : World) : (FmtStop.operand name true 115 false (.iface 41 (.int .u64 x))).run Ybaf.prog w = .ok (shape41, Go.Extern.Stop.digits 8 (x % 2 ^ 64).toNat) w := by kernel_rfl
theorem op9_118w (name : String) (x : ByteArray) (w : World) : (FmtStop.operand name true 118 false (.iface 9 (.string x))).run Ybaf.prog w = .ok (shape9, FmtStop.pack x.data.toList) w := by kernel_rfl
theorem op41_118w (name : String) (x : Int) (w : World) : (FmtStop.operand name true 118 false (.iface 41 (.int .u64 x))).run Ybaf.prog w = .ok (shape41, Go.Extern.Stop.digits 8 (x % 2 ^ 64).toNat) w := by kernel_rfl
theorem op9_100w (name : String) (x : ByteArray) (w : World) : (FmtStop.operand name true 100 false (.iface 9 (.string x))).run Ybaf.prog w = .ok (shape9, FmtStop.pack x.data.toList) w := by kernel_rfl
theorem op41_100w (name : String) (x : Int) (w : World) : (FmtStop.operand name true 100 false (.iface 41 (.int .u64 x))).run Ybaf.prog w = .ok (shape41, Go.Extern.Stop.digits 8 (x % 2 ^ 64).toNat) w := by kernel_rfl
theorem strict9 (name : String) (x : ByteArray) (w : World) : (FmtStop.strict name (.iface 9 (.string x))).run Ybaf.prog w = .ok (shape9, FmtStop.pack x.data.toList) w := by kernel_rfl
theorem strict41 (name : String) (x : Int) (w : World) : (FmtStop.strict name (.iface 41 (.int .u64 x))).run Ybaf.prog w = .ok (shape41, Go.Extern.Stop.digits 8 (x % 2 ^ 64).toNat) w := by kernel_rfl
theorem ptr117 (w : World) : (FmtStop.ptrTo "errors.errorString").run Ybaf.prog w = .ok 117 w := by kernel_rfl
theorem elem117 (w : World) : (elemOf 117).run Ybaf.prog w = .ok 119 w := by kernel_rfl
theorem isError117 (w : World) : (FmtDoors.textMethod 117 "Error").run Ybaf.prog w = .ok true w := by kernel_rfl
theorem ptr109 (w : World) : (FmtStop.ptrTo "fmt.wrapError").run Ybaf.prog w = .ok 109 w := by kernel_rfl
theorem elem109 (w : World) : (elemOf 109).run Ybaf.prog w = .ok 243 w := by kernel_rfl
theorem isError109 (w : World) : (FmtDoors.textMethod 109 "Error").run Ybaf.prog w = .ok true w := by kernel_rfl
end Go.Proofs.YbulkauvkFmt
