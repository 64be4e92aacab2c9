import Derived.Test.YtcidlnjpabgioaaGreatDoorUTieV
set_option maxRecDepth 100000
namespace Go.Proofs.YtcidlnjpabgioaaGreatDoor
open Go
theorem aJs:∀ os tape,varsDone Tryz.prog 400 716 os tape=true:=fun _ _=>by kernel_rfl
theorem aMp:∀ os tape,varsDone Tryz.prog 400 (varsId Tryz.prog) os tape=true:=by rw[xH];exact aJs
end Go.Proofs.YtcidlnjpabgioaaGreatDoor
