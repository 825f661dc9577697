/-
  THE CLOSED FACTS FOR A WALK OVER fmt.Sprintf IN THIS PROGRAM (after the texts that the authors' tool writes for other programs).
-/
import Derived.Test.YbulkacjcFmtCards
import Derived.Stop.CallBack
import Derived.Stop.IfaceNil
import GoSem.ClaimData
namespace Go.Proofs
open Go.Extern.Stop Go.Stop Go.Extern

theorem Ybaf.call8 (args : Array Value) (w : World) : (callFunc 8 args).run Ybaf.prog w = ((FmtStop.sprintf #[9, 103] #[9] args).run Ybaf.prog w).andThen fun v w' => .ok (.value v) w' :=
  run_callFunc_extern Ybaf.func8 (by kernel_rfl) (by kernel_rfl) (by kernel_rfl) (by kernel_rfl) args w
theorem Ybaf.guard (name : String) (w : World) : (FmtStop.guard name).run Ybaf.prog w = .ok () w := by kernel_rfl

-- "add of %d takes the count of group %s past %d", 3 operands
theorem Ybaf.fmt0 : FmtStop.printed? ⟨#[97, 100, 100, 32, 111, 102, 32, 37, 100, 32, 116, 97, 107, 101, 115, 32, 116, 104, 101, 32, 99, 111, 117, 110, 116, 32, 111, 102, 32, 103, 114, 111, 117, 112, 32, 37, 115, 32, 112, 97, 115, 116, 32, 37, 100]⟩ 3 = some [(0, 100, false), (1, 115, false), (2, 100, false)] := by kernel_rfl
theorem Ybaf.fmt0r (w : World) : (FmtDoors.printed ⟨#[97, 100, 100, 32, 111, 102, 32, 37, 100, 32, 116, 97, 107, 101, 115, 32, 116, 104, 101, 32, 99, 111, 117, 110, 116, 32, 111, 102, 32, 103, 114, 111, 117, 112, 32, 37, 115, 32, 112, 97, 115, 116, 32, 37, 100]⟩ 3).run Ybaf.prog w = .ok [(0, 100, false), (1, 115, false), (2, 100, false)] w := by kernel_rfl

def Ybaf.shape3 : List UInt8 := [5, 3, 0, 0, 0, 0, 0, 0, 0, 105, 110, 116]
theorem Ybaf.op3_100 (name : String) (x : Int) (w : World) : (FmtStop.operand name false 100 false (.iface 3 (.int .i64 x))).run Ybaf.prog w = .ok (Ybaf.shape3, Go.Extern.Stop.digits 8 (x % 2 ^ 64).toNat) w := by kernel_rfl
def Ybaf.shape2 : List UInt8 := [5, 5, 0, 0, 0, 0, 0, 0, 0, 105, 110, 116, 54, 52]
theorem Ybaf.op2_100 (name : String) (x : Int) (w : World) : (FmtStop.operand name false 100 false (.iface 2 (.int .i64 x))).run Ybaf.prog w = .ok (Ybaf.shape2, Go.Extern.Stop.digits 8 (x % 2 ^ 64).toNat) w := by kernel_rfl
def Ybaf.shape9 : List UInt8 := [12, 6, 0, 0, 0, 0, 0, 0, 0, 115, 116, 114, 105, 110, 103]
theorem Ybaf.op9_115 (name : String) (x : ByteArray) (w : World) : (FmtStop.operand name false 115 false (.iface 9 (.string x))).run Ybaf.prog w = .ok (Ybaf.shape9, FmtStop.pack x.data.toList) w := by kernel_rfl
end Go.Proofs
