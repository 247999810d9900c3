/-
  The closed facts that a walk over the stop fmt.Sprintf wants, at this program's numbers (after the kit's worked text HexbadFmt): the format of extensionName, its operand's type.
-/
import Derived.Test.YbulkcupaFmtProg
import Derived.Stop.CallBack
import Derived.Stop.IfaceNil
import GoSem.ClaimData
namespace Go.Proofs
open Go.Extern.Stop Go.Stop Go.Extern

@[go_sem] theorem Ybaf.call13 (args : Array Value) (w : World) : (callFunc 13 args).run Ybaf.prog w = (FmtCalls.sprintf #[9, 92] #[9] args).run Ybaf.prog w :=
  run_callFunc_next Ybaf.func13 (by kernel_rfl) (by kernel_rfl) (by kernel_rfl) args w
@[go_sem] theorem Ybaf.guard (name : String) (w : World) : (FmtStop.guard name).run Ybaf.prog w = .ok () w := by kernel_rfl
theorem Ybaf.nextTurns : Extern.next FmtCalls.turnsRow = some (FmtCalls.begun #[] #[]) := by kernel_rfl
-- the format of extensionName, one operand
@[go_sem] theorem Ybaf.fmt0 : FmtStop.printed? ⟨#[114, 101, 115, 101, 114, 118, 101, 100, 32, 40, 37, 100, 41]⟩ 1 = some [(0, 100, false)] := by kernel_rfl
@[go_sem] theorem Ybaf.fmt0r (w : World) : (FmtDoors.printed ⟨#[114, 101, 115, 101, 114, 118, 101, 100, 32, 40, 37, 100, 41]⟩ 1).run Ybaf.prog w = .ok [(0, 100, false)] w := by kernel_rfl
-- type 26: rim.Extension
def Ybaf.shape26 : List UInt8 := 6 :: FmtStop.pack "rim.Extension".toUTF8.data.toList
@[go_sem] theorem Ybaf.act26_100 (name : String) (x : Value) (w : World) : (FmtCalls.act name false 100 false (.iface 26 x)).run Ybaf.prog w = .ok (.closed false) w := by kernel_rfl
@[go_sem] theorem Ybaf.op26_100 (name : String) (x : Int) (w : World) : (FmtStop.operand name false 100 false (.iface 26 (.int .u8 x))).run Ybaf.prog w = .ok (Ybaf.shape26, Go.Extern.Stop.digits 8 (x % 2 ^ 64).toNat) w := by kernel_rfl
end Go.Proofs
