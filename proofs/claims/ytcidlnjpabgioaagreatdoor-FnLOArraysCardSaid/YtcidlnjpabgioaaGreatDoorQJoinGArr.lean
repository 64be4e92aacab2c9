import Derived.Test.YtcidlnjpabgioaaGreatDoorQJoinArr
import Derived.SevenTiedAt
namespace Go.Proofs.YtcidlnjpabgioaaGreatDoor
open Go
set_option maxRecDepth 100000
theorem no_goes : Tryz.prog.funcs.any Func.goes = false := by kernel_rfl
theorem arrays_reach : ((Tryz.prog.closure 3).any fun g => (Tryz.prog.funcs[g]?).any Func.goes) = false := by kernel_rfl
theorem arrays_goes0 : Tryz.prog.goes 3 = false := by
 unfold Program.goes
 rw [arrays_reach, no_goes, Bool.and_false]
 rfl
end Go.Proofs.YtcidlnjpabgioaaGreatDoor
