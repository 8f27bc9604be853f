/-
  THE CLOSED FACTS FOR THE WALK OVER fmt.Sprintf (A STOP THAT CALLS) AT THIS DUMP (after LevelsFmt.lean, turned to this program by hand).
-/
import Derived.Test.Qxb6615812aFmtProg
import Derived.Stop.CallBack
import Derived.Stop.IfaceNil
import GoSem.ClaimData
namespace Go.Proofs
open Go.Extern.Stop Go.Stop Go.Extern

-- fmt.Sprintf: function 7: A STOP THAT CALLS its operands' Error() | String()
@[go_sem] theorem Tryf.call7 (args : Array Value) (w : World) : (callFunc 7 args).run Tryf.prog w = (FmtCalls.sprintf #[9, 52] #[9] args).run Tryf.prog w :=
  run_callFunc_next Tryf.func7 (by kernel_rfl) (by kernel_rfl) (by kernel_rfl) args w

@[go_sem] theorem Tryf.guard (name : String) (w : World) : (FmtStop.guard name).run Tryf.prog w = .ok () w := by kernel_rfl
theorem Tryf.nextTurns : Extern.next FmtCalls.turnsRow = some (FmtCalls.begun #[] #[]) := by kernel_rfl
theorem Tryf.nextReturned : Extern.next FmtCalls.returnedRow = some (FmtCalls.returned #[] #[]) := by kernel_rfl

@[go_sem] theorem Tryf.fmt4 : FmtStop.printed? ⟨#[102, 105, 108, 101, 32, 37, 115, 32, 100, 101, 103, 114, 101, 101, 32, 37, 100, 32, 99, 104, 117, 110, 107, 115, 32, 37, 100, 32, 112, 97, 116, 104, 32, 37, 115]⟩ 4 = some [(0, 115, false), (1, 100, false), (2, 100, false), (3, 115, false)] := by kernel_rfl
@[go_sem] theorem Tryf.fmt4r (w : World) : (FmtDoors.printed ⟨#[102, 105, 108, 101, 32, 37, 115, 32, 100, 101, 103, 114, 101, 101, 32, 37, 100, 32, 99, 104, 117, 110, 107, 115, 32, 37, 100, 32, 112, 97, 116, 104, 32, 37, 115]⟩ 4).run Tryf.prog w = .ok [(0, 115, false), (1, 100, false), (2, 100, false), (3, 115, false)] w := by kernel_rfl

-- type 26: wire.FileID
@[go_sem] theorem Tryf.act26_115 (name : String) (x : Value) (w : World) : (FmtCalls.act name false 115 false (.iface 26 x)).run Tryf.prog w = .ok (.call false) w := by kernel_rfl
@[go_sem] theorem Tryf.isString26 (w : World) : (FmtDoors.textMethod 26 "String").run Tryf.prog w = .ok true w := by kernel_rfl
theorem Tryf.invokeString26 (x : Value) (w : World) : (invoke (.fn (.method "String") #[]) #[.iface 26 x]).run Tryf.prog w = .ok (.enter 8 #[x]) w := by kernel_rfl
@[go_sem] theorem Tryf.str26 (w : World) : (typeStr 26).run Tryf.prog w = .ok "wire.FileID" w := by kernel_rfl
-- type 3: int
def Tryf.shape3 : List UInt8 := [5, 3, 0, 0, 0, 0, 0, 0, 0, 105, 110, 116]
@[go_sem] theorem Tryf.act3_100 (name : String) (x : Value) (w : World) : (FmtCalls.act name false 100 false (.iface 3 x)).run Tryf.prog w = .ok (.closed false) w := by kernel_rfl
@[go_sem] theorem Tryf.op3_100 (name : String) (x : Int) (w : World) : (FmtStop.operand name false 100 false (.iface 3 (.int .i64 x))).run Tryf.prog w = .ok (Tryf.shape3, Go.Extern.Stop.digits 8 (x % 2 ^ 64).toNat) w := by kernel_rfl
-- type 9: string
def Tryf.shape9 : List UInt8 := [12, 6, 0, 0, 0, 0, 0, 0, 0, 115, 116, 114, 105, 110, 103]
@[go_sem] theorem Tryf.act9_115 (name : String) (x : Value) (w : World) : (FmtCalls.act name false 115 false (.iface 9 x)).run Tryf.prog w = .ok (.closed false) w := by kernel_rfl
@[go_sem] theorem Tryf.op9_115 (name : String) (x : ByteArray) (w : World) : (FmtStop.operand name false 115 false (.iface 9 (.string x))).run Tryf.prog w = .ok (Tryf.shape9, FmtStop.pack x.data.toList) w := by kernel_rfl

end Go.Proofs
