import Derived.Test.YtcidlnjpabgioaaGreatDoorQTieV
namespace Go.Proofs.YtcidlnjpabgioaaGreatDoor
open Go
set_option maxRecDepth 100000
theorem tie_done0 : ∀ os tape, varsDone Tryz.prog 400 716 os tape = true := fun _ _ => by kernel_rfl
theorem tie_done : ∀ os tape, varsDone Tryz.prog 400 (varsId Tryz.prog) os tape = true := by rw [vars_id]; exact tie_done0
end Go.Proofs.YtcidlnjpabgioaaGreatDoor
