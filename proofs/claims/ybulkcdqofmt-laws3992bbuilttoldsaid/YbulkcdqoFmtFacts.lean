/-
  Closed facts for the walk over fmt.errorf's stop at this dump (after the guide's CheckFmt.lean).
-/
import Derived.Test.YbulkcdqoFmtRows
import Derived.Stop.CallBack
import Derived.Stop.IfaceNil
import GoSem.ClaimData
namespace Go.Proofs.YbulkcdqoFmt
open Go.Extern.Stop Go.Stop Go.Extern

theorem call9 (args : Array Value) (w : World) : (callFunc 9 args).run Ybaf.prog w = ((FmtStop.errorf #[9, 34] #[24] args).run Ybaf.prog w).andThen fun v w' => .ok (.value v) w' :=
  run_callFunc_extern Ybaf.func9 (by kernel_rfl) (by kernel_rfl) (by kernel_rfl) (by kernel_rfl) args w
theorem guardF (name : String) (w : World) : (FmtStop.guard name).run Ybaf.prog w = .ok () w := by kernel_rfl
/-- "position %d: %q is not one of 0-9, A-Z and '<'" -/
abbrev fmtB : ByteArray := ⟨#[112, 111, 115, 105, 116, 105, 111, 110, 32, 37, 100, 58, 32, 37, 113, 32, 105, 115, 32, 110, 111, 116, 32, 111, 110, 101, 32, 111, 102, 32, 48, 45, 57, 44, 32, 65, 45, 90, 32, 97, 110, 100, 32, 39, 60, 39]⟩
theorem fmt0 : FmtStop.printed? ⟨#[112, 111, 115, 105, 116, 105, 111, 110, 32, 37, 100, 58, 32, 37, 113, 32, 105, 115, 32, 110, 111, 116, 32, 111, 110, 101, 32, 111, 102, 32, 48, 45, 57, 44, 32, 65, 45, 90, 32, 97, 110, 100, 32, 39, 60, 39]⟩ 2 = some [(0, 100, false), (1, 113, false)] := by kernel_rfl
theorem fmt0r (w : World) : (FmtDoors.printed ⟨#[112, 111, 115, 105, 116, 105, 111, 110, 32, 37, 100, 58, 32, 37, 113, 32, 105, 115, 32, 110, 111, 116, 32, 111, 110, 101, 32, 111, 102, 32, 48, 45, 57, 44, 32, 65, 45, 90, 32, 97, 110, 100, 32, 39, 60, 39]⟩ 2).run Ybaf.prog w = .ok [(0, 100, false), (1, 113, false)] w := by kernel_rfl
theorem fmt1 : FmtStop.printed? ⟨#[112, 111, 115, 105, 116, 105, 111, 110, 32, 37, 100, 58, 32, 37, 113, 32, 105, 115, 32, 110, 111, 116, 32, 111, 110, 101, 32, 111, 102, 32, 48, 45, 57, 44, 32, 65, 45, 90, 32, 97, 110, 100, 32, 39, 60, 39]⟩ 0 = some [] := by kernel_rfl
theorem fmt1r (w : World) : (FmtDoors.printed ⟨#[112, 111, 115, 105, 116, 105, 111, 110, 32, 37, 100, 58, 32, 37, 113, 32, 105, 115, 32, 110, 111, 116, 32, 111, 110, 101, 32, 111, 102, 32, 48, 45, 57, 44, 32, 65, 45, 90, 32, 97, 110, 100, 32, 39, 60, 39]⟩ 0).run Ybaf.prog w = .ok [] w := by kernel_rfl
def shape3 : List UInt8 := [5, 3, 0, 0, 0, 0, 0, 0, 0, 105, 110, 116]
theorem op3_100 (name : String) (x : Int) (w : World) : (FmtStop.operand name false 100 false (.iface 3 (.int .i64 x))).run Ybaf.prog w = .ok (shape3, Go.Extern.Stop.digits 8 (x % 2 ^ 64).toNat) w := by kernel_rfl
theorem op3_100w (name : String) (x : Int) (w : World) : (FmtStop.operand name true 100 false (.iface 3 (.int .i64 x))).run Ybaf.prog w = .ok (shape3, Go.Extern.Stop.digits 8 (x % 2 ^ 64).toNat) w := by kernel_rfl
def shape21 : List UInt8 := [4, 5, 0, 0, 0, 0, 0, 0, 0, 105, 110, 116, 51, 50]
theorem op21_113 (name : String) (x : Int) (w : World) : (FmtStop.operand name false 113 false (.iface 21 (.int .i32 x))).run Ybaf.prog w = .ok (shape21, Go.Extern.Stop.digits 8 (x % 2 ^ 64).toNat) w := by kernel_rfl
theorem op21_113w (name : String) (x : Int) (w : World) : (FmtStop.operand name true 113 false (.iface 21 (.int .i32 x))).run Ybaf.prog w = .ok (shape21, Go.Extern.Stop.digits 8 (x % 2 ^ 64).toNat) w := by kernel_rfl
theorem ptr36 (w : World) : (FmtStop.ptrTo "errors.errorString").run Ybaf.prog w = .ok 36 w := by kernel_rfl
theorem elem36 (w : World) : (elemOf 36).run Ybaf.prog w = .ok 38 w := by kernel_rfl
theorem isError36 (w : World) : (FmtDoors.textMethod 36 "Error").run Ybaf.prog w = .ok true w := by kernel_rfl
end Go.Proofs.YbulkcdqoFmt
