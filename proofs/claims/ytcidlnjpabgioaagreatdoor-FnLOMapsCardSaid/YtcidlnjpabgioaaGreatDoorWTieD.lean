import Derived.Test.YtcidlnjpabgioaaGreatDoorWTieV
set_option maxRecDepth 100000
namespace Go.Proofs.YtcidlnjpabgioaaGreatDoor
open Go
theorem aFU : ∀ os tape, varsDone Tryz.prog 400 716 os tape = true := fun _ _ => by kernel_rfl
theorem aIO : ∀ os tape, varsDone Tryz.prog 400 (varsId Tryz.prog) os tape = true := by rw [uU]; exact aFU
end Go.Proofs.YtcidlnjpabgioaaGreatDoor
