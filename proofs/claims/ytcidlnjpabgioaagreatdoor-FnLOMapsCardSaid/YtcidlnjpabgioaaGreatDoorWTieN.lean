import Derived.Test.YtcidlnjpabgioaaGreatDoorWTieV
set_option maxRecDepth 100000
namespace Go.Proofs.YtcidlnjpabgioaaGreatDoor
open Go
theorem aDH : varsNamedLaterB Tryz.prog 716 jE = true := by kernel_rfl
theorem aFP : varsNamedLaterB Tryz.prog (varsId Tryz.prog) jE = true := by rw [uU]; exact aDH
end Go.Proofs.YtcidlnjpabgioaaGreatDoor
