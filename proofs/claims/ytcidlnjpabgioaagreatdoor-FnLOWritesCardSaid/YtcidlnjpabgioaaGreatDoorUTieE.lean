import Derived.Test.YtcidlnjpabgioaaGreatDoorUTieV
set_option maxRecDepth 100000
namespace Go.Proofs.YtcidlnjpabgioaaGreatDoor
open Go
theorem aJw:∀ os tape,(DataW.laidRun Tryz.prog (varsWorld Tryz.prog 400 716 os tape).memory 8 (jU.map (·.1))).map (·.1)=some jU:=fun _ _=>by kernel_rfl
theorem aMq:∀ os tape,(DataW.laidRun Tryz.prog (varsWorld Tryz.prog 400 (varsId Tryz.prog) os tape).memory 8 (jU.map (·.1))).map (·.1)=some jU:=by rw[xH];exact aJw
end Go.Proofs.YtcidlnjpabgioaaGreatDoor
