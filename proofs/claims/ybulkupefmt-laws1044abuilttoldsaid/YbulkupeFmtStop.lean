/-
  Seat b1044aF: the closed facts for a walk over fmt.Sprintf's stop (function 14), at the two formats of this program.
-/
import Derived.Test.YbulkupeFmtRows
import Derived.Stop.CallBack
import Derived.Stop.IfaceNil
import GoSem.ClaimData
namespace Go.Proofs.YbulkupeFmt
open Go.Extern.Stop Go.Stop Go.Extern

theorem call14 (args : Array Value) (w : World) : (callFunc 14 args).run Ybaf.prog w = ((FmtStop.sprintf #[9, 73] #[9] args).run Ybaf.prog w).andThen fun v w' => .ok (.value v) w' :=
  run_callFunc_extern Ybaf.func14 (by kernel_rfl) (by kernel_rfl) (by kernel_rfl) (by kernel_rfl) args w
theorem guard14 (name : String) (w : World) : (FmtStop.guard name).run Ybaf.prog w = .ok () w := by kernel_rfl
-- the format of readEncryptionKey, three operands
theorem fmtA : FmtStop.printed? ⟨#[97, 32, 107, 101, 121, 32, 111, 102, 32, 99, 114, 121, 112, 116, 111, 32, 116, 121, 112, 101, 32, 37, 100, 32, 105, 115, 32, 37, 100, 32, 98, 121, 116, 101, 115, 44, 32, 110, 111, 116, 32, 37, 100]⟩ 3 = some [(0, 100, false), (1, 100, false), (2, 100, false)] := by kernel_rfl
theorem fmtAr (w : World) : (FmtDoors.printed ⟨#[97, 32, 107, 101, 121, 32, 111, 102, 32, 99, 114, 121, 112, 116, 111, 32, 116, 121, 112, 101, 32, 37, 100, 32, 105, 115, 32, 37, 100, 32, 98, 121, 116, 101, 115, 44, 32, 110, 111, 116, 32, 37, 100]⟩ 3).run Ybaf.prog w = .ok [(0, 100, false), (1, 100, false), (2, 100, false)] w := by kernel_rfl
-- the format of Counted, two operands
theorem fmtB : FmtStop.printed? ⟨#[97, 115, 107, 115, 32, 102, 111, 114, 32, 37, 100, 32, 98, 121, 116, 101, 115, 44, 32, 37, 100, 32, 114, 101, 109, 97, 105, 110]⟩ 2 = some [(0, 100, false), (1, 100, false)] := by kernel_rfl
theorem fmtBr (w : World) : (FmtDoors.printed ⟨#[97, 115, 107, 115, 32, 102, 111, 114, 32, 37, 100, 32, 98, 121, 116, 101, 115, 44, 32, 37, 100, 32, 114, 101, 109, 97, 105, 110]⟩ 2).run Ybaf.prog w = .ok [(0, 100, false), (1, 100, false)] w := by kernel_rfl
theorem op3 (name : String) (x : Int) (w : World) : (FmtStop.operand name false 100 false (.iface 3 (.int .i64 x))).run Ybaf.prog w = .ok ([5, 3, 0, 0, 0, 0, 0, 0, 0, 105, 110, 116], Go.Extern.Stop.digits 8 (x % 2 ^ 64).toNat) w := by kernel_rfl
theorem op29 (name : String) (x : Int) (w : World) : (FmtStop.operand name false 100 false (.iface 29 (.int .u16 x))).run Ybaf.prog w = .ok ([7, 6, 0, 0, 0, 0, 0, 0, 0, 117, 105, 110, 116, 49, 54], Go.Extern.Stop.digits 8 (x % 2 ^ 64).toNat) w := by kernel_rfl
theorem op30 (name : String) (x : Int) (w : World) : (FmtStop.operand name false 100 false (.iface 30 (.int .u16 x))).run Ybaf.prog w = .ok ([7, 16, 0, 0, 0, 0, 0, 0, 0, 110, 101, 116, 100, 98, 46, 67, 114, 121, 112, 116, 111, 84, 121, 112, 101], Go.Extern.Stop.digits 8 (x % 2 ^ 64).toNat) w := by kernel_rfl
theorem op50 (name : String) (x : Int) (w : World) : (FmtStop.operand name false 100 false (.iface 50 (.int .u64 x))).run Ybaf.prog w = .ok ([9, 6, 0, 0, 0, 0, 0, 0, 0, 117, 105, 110, 116, 54, 52], Go.Extern.Stop.digits 8 (x % 2 ^ 64).toNat) w := by kernel_rfl
end Go.Proofs.YbulkupeFmt
