import Derived.Test.YbulkeiiwFmtRows
import Derived.Stop.CallBack
import Derived.Stop.IfaceNil
import GoSem.ClaimData
import Derived.Attr
import Derived.WalkKit
namespace Go.Proofs.YbulkeiiwFmt
open Go.Extern.Stop Go.Stop Go.Extern

@[go_sem] theorem Ybaf.call25 (args : Array Value) (w : World) : (callFunc 25 args).run Ybaf.prog w = (FmtCalls.errorf #[9, 69] #[62] args).run Ybaf.prog w :=
  run_callFunc_next Ybaf.func25 (by kernel_rfl) (by kernel_rfl) (by kernel_rfl) args w
@[go_sem] theorem Ybaf.guard (name : String) (w : World) : (FmtStop.guard name).run Ybaf.prog w = .ok () w := by kernel_rfl
theorem Ybaf.nextTurns : Extern.next FmtCalls.turnsRow = some (FmtCalls.begun #[] #[]) := by kernel_rfl
theorem Ybaf.nextReturned : Extern.next FmtCalls.returnedRow = some (FmtCalls.returned #[] #[]) := by kernel_rfl
@[go_sem] theorem Ybaf.fmt0r (w : World) : (FmtDoors.printed ⟨#[110, 111, 32, 114, 111, 117, 116, 101, 32, 116, 111, 32, 37, 118, 32, 105, 115, 32, 107, 110, 111, 119, 110]⟩ 1).run Ybaf.prog w = .ok [(0, 118, false)] w := by kernel_rfl
@[go_sem] theorem Ybaf.act34 (name : String) (x : Value) (w : World) : (FmtCalls.act name true 118 false (.iface 34 x)).run Ybaf.prog w = .ok (.call false) w := by kernel_rfl
@[go_sem] theorem Ybaf.str34 (w : World) : (typeStr 34).run Ybaf.prog w = .ok "netip.Addr" w := by kernel_rfl
theorem Ybaf.invokeString34 (x : Value) (w : World) : (invoke (.fn (.method "String") #[]) #[.iface 34 x]).run Ybaf.prog w = .ok (.enter 27 #[x]) w := by kernel_rfl
@[go_sem] theorem Ybaf.ptr72 (w : World) : (FmtStop.ptrTo "errors.errorString").run Ybaf.prog w = .ok 72 w := by kernel_rfl
@[go_sem] theorem Ybaf.elem72 (w : World) : (elemOf 72).run Ybaf.prog w = .ok 74 w := by kernel_rfl
end Go.Proofs.YbulkeiiwFmt
