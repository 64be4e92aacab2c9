import Derived.Test.YtcidlnjpabgioaaGreatDoorQJoinTp
import Derived.SevenTiedAt
namespace Go.Proofs.YtcidlnjpabgioaaGreatDoor
open Go
set_option maxRecDepth 100000
theorem no_goes : Tryz.prog.funcs.any Func.goes = false := by kernel_rfl
theorem tuples_reach : ((Tryz.prog.closure 6).any fun g => (Tryz.prog.funcs[g]?).any Func.goes) = false := by kernel_rfl
theorem tuples_goes0 : Tryz.prog.goes 6 = false := by
 unfold Program.goes
 rw [tuples_reach, no_goes, Bool.and_false]
 rfl
end Go.Proofs.YtcidlnjpabgioaaGreatDoor
