import Derived.Test.YtcidlnjpabgioaaGreatDoorUJoinWri
import Derived.SevenTiedAt
set_option maxRecDepth 100000
namespace Go.Proofs.YtcidlnjpabgioaaGreatDoor
open Go
theorem aOb:Tryz.prog.funcs.any Func.goes=false:=by kernel_rfl
theorem aCH:((Tryz.prog.closure 7).any fun g=>(Tryz.prog.funcs[g]?).any Func.goes)=false:=by kernel_rfl
theorem aCD:Tryz.prog.goes 7=false:=by
 unfold Program.goes;rw[aCH,aOb,Bool.and_false]
 rfl
end Go.Proofs.YtcidlnjpabgioaaGreatDoor
