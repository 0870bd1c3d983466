/-
  The closed facts for the walk over fmt's stopped front, after the kit's own print for other dumps: each by the kernel.
-/
import Derived.Test.YbulkdttgFmtOwn
import Derived.Test.YbulkdttgFmtRows
import Derived.Stop.CallBack
import Derived.Stop.IfaceNil
import GoSem.ClaimData
namespace Go.Proofs.YbulkdttgFmt.lawS6025BWhole
open Go.Extern.Stop Go.Stop Go.Extern

theorem call23 (args : Array Value) (w : World) : (callFunc 23 args).run Ybaf.prog w = ((FmtStop.errorf #[9, 63] #[29] args).run Ybaf.prog w).andThen fun v w' => .ok (.value v) w' :=
  run_callFunc_extern Ybaf.func23 (by kernel_rfl) (by kernel_rfl) (by kernel_rfl) (by kernel_rfl) args w
theorem guardF (name : String) (w : World) : (FmtStop.guard name).run Ybaf.prog w = .ok () w := by kernel_rfl
def fmtA : ByteArray := ⟨#[37, 115, 32, 97, 116, 32, 98, 121, 116, 101, 32, 37, 100, 58, 32, 105, 110, 112, 117, 116, 32, 101, 110, 100, 115]⟩
theorem fmtAp : FmtStop.printed? ⟨#[37, 115, 32, 97, 116, 32, 98, 121, 116, 101, 32, 37, 100, 58, 32, 105, 110, 112, 117, 116, 32, 101, 110, 100, 115]⟩ 2 = some [(0, 115, false), (1, 100, false)] := by kernel_rfl
theorem fmtAr (w : World) : (FmtDoors.printed ⟨#[37, 115, 32, 97, 116, 32, 98, 121, 116, 101, 32, 37, 100, 58, 32, 105, 110, 112, 117, 116, 32, 101, 110, 100, 115]⟩ 2).run Ybaf.prog w = .ok [(0, 115, false), (1, 100, false)] w := by kernel_rfl
theorem fmtAp0 : FmtStop.printed? ⟨#[37, 115, 32, 97, 116, 32, 98, 121, 116, 101, 32, 37, 100, 58, 32, 105, 110, 112, 117, 116, 32, 101, 110, 100, 115]⟩ 0 = some [] := by kernel_rfl
theorem fmtAr0 (w : World) : (FmtDoors.printed ⟨#[37, 115, 32, 97, 116, 32, 98, 121, 116, 101, 32, 37, 100, 58, 32, 105, 110, 112, 117, 116, 32, 101, 110, 100, 115]⟩ 0).run Ybaf.prog w = .ok [] w := by kernel_rfl
def fmtB : ByteArray := ⟨#[37, 115, 32, 97, 116, 32, 98, 121, 116, 101, 32, 37, 100, 32, 100, 111, 101, 115, 32, 110, 111, 116, 32, 102, 105, 116, 32, 105, 110, 32, 54, 52, 32, 98, 105, 116, 115]⟩
theorem fmtBp : FmtStop.printed? ⟨#[37, 115, 32, 97, 116, 32, 98, 121, 116, 101, 32, 37, 100, 32, 100, 111, 101, 115, 32, 110, 111, 116, 32, 102, 105, 116, 32, 105, 110, 32, 54, 52, 32, 98, 105, 116, 115]⟩ 2 = some [(0, 115, false), (1, 100, false)] := by kernel_rfl
theorem fmtBr (w : World) : (FmtDoors.printed ⟨#[37, 115, 32, 97, 116, 32, 98, 121, 116, 101, 32, 37, 100, 32, 100, 111, 101, 115, 32, 110, 111, 116, 32, 102, 105, 116, 32, 105, 110, 32, 54, 52, 32, 98, 105, 116, 115]⟩ 2).run Ybaf.prog w = .ok [(0, 115, false), (1, 100, false)] w := by kernel_rfl
theorem fmtBp0 : FmtStop.printed? ⟨#[37, 115, 32, 97, 116, 32, 98, 121, 116, 101, 32, 37, 100, 32, 100, 111, 101, 115, 32, 110, 111, 116, 32, 102, 105, 116, 32, 105, 110, 32, 54, 52, 32, 98, 105, 116, 115]⟩ 0 = some [] := by kernel_rfl
theorem fmtBr0 (w : World) : (FmtDoors.printed ⟨#[37, 115, 32, 97, 116, 32, 98, 121, 116, 101, 32, 37, 100, 32, 100, 111, 101, 115, 32, 110, 111, 116, 32, 102, 105, 116, 32, 105, 110, 32, 54, 52, 32, 98, 105, 116, 115]⟩ 0).run Ybaf.prog w = .ok [] w := by kernel_rfl
def fmtC : ByteArray := ⟨#[37, 115, 32, 97, 116, 32, 98, 121, 116, 101, 32, 37, 100, 32, 116, 97, 107, 101, 115, 32, 109, 111, 114, 101, 32, 98, 121, 116, 101, 115, 32, 116, 104, 97, 110, 32, 105, 116, 115, 32, 118, 97, 108, 117, 101, 32, 110, 101, 101, 100, 115]⟩
theorem fmtCp : FmtStop.printed? ⟨#[37, 115, 32, 97, 116, 32, 98, 121, 116, 101, 32, 37, 100, 32, 116, 97, 107, 101, 115, 32, 109, 111, 114, 101, 32, 98, 121, 116, 101, 115, 32, 116, 104, 97, 110, 32, 105, 116, 115, 32, 118, 97, 108, 117, 101, 32, 110, 101, 101, 100, 115]⟩ 2 = some [(0, 115, false), (1, 100, false)] := by kernel_rfl
theorem fmtCr (w : World) : (FmtDoors.printed ⟨#[37, 115, 32, 97, 116, 32, 98, 121, 116, 101, 32, 37, 100, 32, 116, 97, 107, 101, 115, 32, 109, 111, 114, 101, 32, 98, 121, 116, 101, 115, 32, 116, 104, 97, 110, 32, 105, 116, 115, 32, 118, 97, 108, 117, 101, 32, 110, 101, 101, 100, 115]⟩ 2).run Ybaf.prog w = .ok [(0, 115, false), (1, 100, false)] w := by kernel_rfl
theorem fmtCp0 : FmtStop.printed? ⟨#[37, 115, 32, 97, 116, 32, 98, 121, 116, 101, 32, 37, 100, 32, 116, 97, 107, 101, 115, 32, 109, 111, 114, 101, 32, 98, 121, 116, 101, 115, 32, 116, 104, 97, 110, 32, 105, 116, 115, 32, 118, 97, 108, 117, 101, 32, 110, 101, 101, 100, 115]⟩ 0 = some [] := by kernel_rfl
theorem fmtCr0 (w : World) : (FmtDoors.printed ⟨#[37, 115, 32, 97, 116, 32, 98, 121, 116, 101, 32, 37, 100, 32, 116, 97, 107, 101, 115, 32, 109, 111, 114, 101, 32, 98, 121, 116, 101, 115, 32, 116, 104, 97, 110, 32, 105, 116, 115, 32, 118, 97, 108, 117, 101, 32, 110, 101, 101, 100, 115]⟩ 0).run Ybaf.prog w = .ok [] w := by kernel_rfl
def fmtD : ByteArray := ⟨#[37, 115, 32, 37, 100, 32, 97, 116, 32, 98, 121, 116, 101, 32, 37, 100, 58, 32, 116, 104, 101, 32, 37, 100, 32, 98, 121, 116, 101, 115, 32, 108, 101, 102, 116, 32, 99, 97, 110, 110, 111, 116, 32, 104, 111, 108, 100, 32, 115, 111, 32, 109, 97, 110, 121]⟩
theorem fmtDp : FmtStop.printed? ⟨#[37, 115, 32, 37, 100, 32, 97, 116, 32, 98, 121, 116, 101, 32, 37, 100, 58, 32, 116, 104, 101, 32, 37, 100, 32, 98, 121, 116, 101, 115, 32, 108, 101, 102, 116, 32, 99, 97, 110, 110, 111, 116, 32, 104, 111, 108, 100, 32, 115, 111, 32, 109, 97, 110, 121]⟩ 4 = some [(0, 115, false), (1, 100, false), (2, 100, false), (3, 100, false)] := by kernel_rfl
theorem fmtDr (w : World) : (FmtDoors.printed ⟨#[37, 115, 32, 37, 100, 32, 97, 116, 32, 98, 121, 116, 101, 32, 37, 100, 58, 32, 116, 104, 101, 32, 37, 100, 32, 98, 121, 116, 101, 115, 32, 108, 101, 102, 116, 32, 99, 97, 110, 110, 111, 116, 32, 104, 111, 108, 100, 32, 115, 111, 32, 109, 97, 110, 121]⟩ 4).run Ybaf.prog w = .ok [(0, 115, false), (1, 100, false), (2, 100, false), (3, 100, false)] w := by kernel_rfl
theorem fmtDp0 : FmtStop.printed? ⟨#[37, 115, 32, 37, 100, 32, 97, 116, 32, 98, 121, 116, 101, 32, 37, 100, 58, 32, 116, 104, 101, 32, 37, 100, 32, 98, 121, 116, 101, 115, 32, 108, 101, 102, 116, 32, 99, 97, 110, 110, 111, 116, 32, 104, 111, 108, 100, 32, 115, 111, 32, 109, 97, 110, 121]⟩ 0 = some [] := by kernel_rfl
theorem fmtDr0 (w : World) : (FmtDoors.printed ⟨#[37, 115, 32, 37, 100, 32, 97, 116, 32, 98, 121, 116, 101, 32, 37, 100, 58, 32, 116, 104, 101, 32, 37, 100, 32, 98, 121, 116, 101, 115, 32, 108, 101, 102, 116, 32, 99, 97, 110, 110, 111, 116, 32, 104, 111, 108, 100, 32, 115, 111, 32, 109, 97, 110, 121]⟩ 0).run Ybaf.prog w = .ok [] w := by kernel_rfl
def shape9 : List UInt8 := [12, 6, 0, 0, 0, 0, 0, 0, 0, 115, 116, 114, 105, 110, 103]
def shape3 : List UInt8 := [5, 3, 0, 0, 0, 0, 0, 0, 0, 105, 110, 116]
theorem op9_115 (name : String) (x : ByteArray) (w : World) : (FmtStop.operand name true 115 false (.iface 9 (.string x))).run Ybaf.prog w = .ok (shape9, FmtStop.pack x.data.toList) w := by kernel_rfl
theorem op3_100 (name : String) (x : Int) (w : World) : (FmtStop.operand name true 100 false (.iface 3 (.int .i64 x))).run Ybaf.prog w = .ok (shape3, Go.Extern.Stop.digits 8 (x % 2 ^ 64).toNat) w := by kernel_rfl
theorem op33_100 (name : String) (x : Int) (w : World) : (FmtStop.operand name true 100 false (.iface 33 (.int .u64 x))).run Ybaf.prog w = .ok (FmtStop.intCode .u64 :: FmtStop.pack [117, 105, 110, 116, 54, 52], Go.Extern.Stop.digits 8 (x % 2 ^ 64).toNat) w := by kernel_rfl
theorem ptr81 (w : World) : (FmtStop.ptrTo "errors.errorString").run Ybaf.prog w = .ok 81 w := by kernel_rfl
theorem elem81 (w : World) : (elemOf 81).run Ybaf.prog w = .ok 83 w := by kernel_rfl
end Go.Proofs.YbulkdttgFmt.lawS6025BWhole
