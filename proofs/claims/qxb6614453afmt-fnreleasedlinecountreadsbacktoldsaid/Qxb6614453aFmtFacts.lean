/-
  The closed facts for a walk over fmt.Sprintf at this program: the stop, the one format of the road, its operands' shapes.
-/
import Derived.Test.Qxb6614453aFmtProg
import Derived.Stop.CallBack
import Derived.Stop.IfaceNil
import GoSem.ClaimData
namespace Go.Proofs.Qxb6614453aFmt
open Go.Extern.Stop Go.Stop Go.Extern

@[go_sem] theorem call22 (args : Array Value) (w : World) : (callFunc 22 args).run Tryf.prog w = ((FmtStop.sprintf #[9, 52] #[9] args).run Tryf.prog w).andThen fun v w' => .ok (.value v) w' :=
  run_callFunc_extern Tryf.func22 (by kernel_rfl) (by kernel_rfl) (by kernel_rfl) (by kernel_rfl) args w

@[go_sem] theorem guardOk (name : String) (w : World) : (FmtStop.guard name).run Tryf.prog w = .ok () w := by kernel_rfl

@[go_sem] theorem fmt4 : FmtStop.printed? ⟨#[37, 115, 32, 37, 115, 32, 37, 115, 32, 37, 100]⟩ 4 = some [(0, 115, false), (1, 115, false), (2, 115, false), (3, 100, false)] := by kernel_rfl
@[go_sem] theorem fmt4r (w : World) : (FmtDoors.printed ⟨#[37, 115, 32, 37, 115, 32, 37, 115, 32, 37, 100]⟩ 4).run Tryf.prog w = .ok [(0, 115, false), (1, 115, false), (2, 115, false), (3, 100, false)] w := by kernel_rfl

def shape3 : List UInt8 := [5, 3, 0, 0, 0, 0, 0, 0, 0, 105, 110, 116]
@[go_sem] theorem op3_100 (name : String) (x : Int) (w : World) : (FmtStop.operand name false 100 false (.iface 3 (.int .i64 x))).run Tryf.prog w = .ok (shape3, Go.Extern.Stop.digits 8 (x % 2 ^ 64).toNat) w := by kernel_rfl
def shape9 : List UInt8 := [12, 6, 0, 0, 0, 0, 0, 0, 0, 115, 116, 114, 105, 110, 103]
@[go_sem] theorem op9_115 (name : String) (x : ByteArray) (w : World) : (FmtStop.operand name false 115 false (.iface 9 (.string x))).run Tryf.prog w = .ok (shape9, FmtStop.pack x.data.toList) w := by kernel_rfl
def shape46 : List UInt8 := [12, 19, 0, 0, 0, 0, 0, 0, 0, 100, 105, 99, 116, 108, 97, 116, 99, 104, 46, 69, 118, 101, 110, 116, 75, 105, 110, 100]
@[go_sem] theorem op46_115 (name : String) (x : ByteArray) (w : World) : (FmtStop.operand name false 115 false (.iface 46 (.string x))).run Tryf.prog w = .ok (shape46, FmtStop.pack x.data.toList) w := by kernel_rfl

end Go.Proofs.Qxb6614453aFmt
