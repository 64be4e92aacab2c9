/- FnLONulls: no other goroutine is begun. -/
import Derived.Test.YtcidlnjpabgioaaGreatDoorJoinN
import Derived.SevenTiedAt
namespace Go.Proofs.YtcidlnjpabgioaaGreatDoor
open Go
set_option maxRecDepth 100000
theorem no_goes : Tryz.prog.funcs.any Func.goes = false := by kernel_rfl
theorem nulls_reach : ((Tryz.prog.closure 5).any fun g => (Tryz.prog.funcs[g]?).any Func.goes) = false := by kernel_rfl
theorem nulls_goes0 : Tryz.prog.goes 5 = false := by
  unfold Program.goes
  rw [nulls_reach, no_goes, Bool.and_false]
  rfl
end Go.Proofs.YtcidlnjpabgioaaGreatDoor
