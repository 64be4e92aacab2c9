import Derived.Test.YtcidlnjpabgioaaGreatDoorQTieV
namespace Go.Proofs.YtcidlnjpabgioaaGreatDoor
open Go
set_option maxRecDepth 100000
theorem tie_named0 : varsNamedLaterB Tryz.prog 716 tieList = true := by kernel_rfl
theorem tie_named : varsNamedLaterB Tryz.prog (varsId Tryz.prog) tieList = true := by rw [vars_id]; exact tie_named0
end Go.Proofs.YtcidlnjpabgioaaGreatDoor
