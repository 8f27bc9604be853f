/-
  THE CLOSED FACTS FOR THE WALK OVER fmt.Sprintf AT THIS DUMP (after LabelFmt.lean, turned to this program by hand).
-/
import Derived.Test.Qxb6615799aFmtProg
import Derived.Stop.CallBack
import Derived.Stop.IfaceNil
import GoSem.ClaimData
namespace Go.Proofs
open Go.Extern.Stop Go.Stop Go.Extern

-- fmt.Sprintf: function 13: a plain stop
@[go_sem] theorem Tryf.call13 (args : Array Value) (w : World) : (callFunc 13 args).run Tryf.prog w = ((FmtStop.sprintf #[9, 57] #[9] args).run Tryf.prog w).andThen fun v w' => .ok (.value v) w' :=
  run_callFunc_extern Tryf.func13 (by kernel_rfl) (by kernel_rfl) (by kernel_rfl) (by kernel_rfl) args w

@[go_sem] theorem Tryf.guard (name : String) (w : World) : (FmtStop.guard name).run Tryf.prog w = .ok () w := by kernel_rfl

@[go_sem] theorem Tryf.fmt2 : FmtStop.printed? ⟨#[108, 111, 103, 45, 37, 48, 49, 54, 120, 45, 37, 48, 49, 54, 120]⟩ 2 = some [(0, 120, false), (1, 120, false)] := by kernel_rfl
@[go_sem] theorem Tryf.fmt2r (w : World) : (FmtDoors.printed ⟨#[108, 111, 103, 45, 37, 48, 49, 54, 120, 45, 37, 48, 49, 54, 120]⟩ 2).run Tryf.prog w = .ok [(0, 120, false), (1, 120, false)] w := by kernel_rfl

-- type 22: uint64
def Tryf.shape22 : List UInt8 := [9, 6, 0, 0, 0, 0, 0, 0, 0, 117, 105, 110, 116, 54, 52]
@[go_sem] theorem Tryf.op22_120 (name : String) (x : Int) (w : World) : (FmtStop.operand name false 120 false (.iface 22 (.int .u64 x))).run Tryf.prog w = .ok (Tryf.shape22, Go.Extern.Stop.digits 8 (x % 2 ^ 64).toNat) w := by kernel_rfl

end Go.Proofs
