import Derived.Test.YtcidlnjpabgioaaGreatDoorUTieL
set_option maxRecDepth 100000
namespace Go.Proofs.YtcidlnjpabgioaaGreatDoor
open Go
theorem aAd:Tryz.prog.funcNamed "gosem.cut.vars" = some 716:=by kernel_rfl
theorem xH:varsId Tryz.prog=716:=by
 unfold varsId;rw[aAd]
 rfl
theorem aMs:(Tryz.prog.funcNamed "gosem.cut.vars").isSome=true:=by rw[aAd];rfl
end Go.Proofs.YtcidlnjpabgioaaGreatDoor
