import Derived.Test.YtcidlnjpabgioaaGreatDoorQTieV
namespace Go.Proofs.YtcidlnjpabgioaaGreatDoor
open Go
set_option maxRecDepth 100000
theorem tie_read0 : ∀ os tape, (DataW.laidRun Tryz.prog (varsWorld Tryz.prog 400 716 os tape).memory 8 (tieList.map (·.1))).map (·.1) = some tieList := fun _ _ => by kernel_rfl
theorem tie_read : ∀ os tape, (DataW.laidRun Tryz.prog (varsWorld Tryz.prog 400 (varsId Tryz.prog) os tape).memory 8 (tieList.map (·.1))).map (·.1) = some tieList := by rw [vars_id]; exact tie_read0
end Go.Proofs.YtcidlnjpabgioaaGreatDoor
