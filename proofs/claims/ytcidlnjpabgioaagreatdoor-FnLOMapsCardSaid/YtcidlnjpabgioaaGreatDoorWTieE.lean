import Derived.Test.YtcidlnjpabgioaaGreatDoorWTieV
set_option maxRecDepth 100000
namespace Go.Proofs.YtcidlnjpabgioaaGreatDoor
open Go
theorem aGk : ∀ os tape, (DataW.laidRun Tryz.prog (varsWorld Tryz.prog 400 716 os tape).memory 8 (jE.map (·.1))).map (·.1) = some jE := fun _ _ => by kernel_rfl
theorem aIg : ∀ os tape, (DataW.laidRun Tryz.prog (varsWorld Tryz.prog 400 (varsId Tryz.prog) os tape).memory 8 (jE.map (·.1))).map (·.1) = some jE := by rw [uU]; exact aGk
end Go.Proofs.YtcidlnjpabgioaaGreatDoor
