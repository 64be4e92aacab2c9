import Derived.Test.YtcidlnjpabgioaaGreatDoorWJoinMp
import Derived.SevenTiedAt
set_option maxRecDepth 100000
namespace Go.Proofs.YtcidlnjpabgioaaGreatDoor
open Go
theorem aJT : Tryz.prog.funcs.any Func.goes = false := by kernel_rfl
theorem aEH : ((Tryz.prog.closure 4).any fun g => (Tryz.prog.funcs[g]?).any Func.goes) = false := by kernel_rfl
theorem aDN : Tryz.prog.goes 4 = false := by
 unfold Program.goes
 rw [aEH, aJT, Bool.and_false]
 rfl
end Go.Proofs.YtcidlnjpabgioaaGreatDoor
