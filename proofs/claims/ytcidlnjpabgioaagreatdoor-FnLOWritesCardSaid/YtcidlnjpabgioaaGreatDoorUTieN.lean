import Derived.Test.YtcidlnjpabgioaaGreatDoorUTieV
set_option maxRecDepth 100000
namespace Go.Proofs.YtcidlnjpabgioaaGreatDoor
open Go
theorem aGs:varsNamedLaterB Tryz.prog 716 jU=true:=by kernel_rfl
theorem aJu:varsNamedLaterB Tryz.prog (varsId Tryz.prog) jU=true:=by rw[xH];exact aGs
end Go.Proofs.YtcidlnjpabgioaaGreatDoor
