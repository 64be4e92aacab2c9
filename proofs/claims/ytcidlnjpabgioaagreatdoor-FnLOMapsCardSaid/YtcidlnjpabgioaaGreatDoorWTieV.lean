import Derived.Test.YtcidlnjpabgioaaGreatDoorWTieL
set_option maxRecDepth 100000
namespace Go.Proofs.YtcidlnjpabgioaaGreatDoor
open Go
theorem vZ : Tryz.prog.funcNamed "gosem.cut.vars" = some 716 := by kernel_rfl
theorem uU : varsId Tryz.prog = 716 := by
 unfold varsId
 rw [vZ]
 rfl
theorem aHU : (Tryz.prog.funcNamed "gosem.cut.vars").isSome = true := by rw [vZ]; rfl
end Go.Proofs.YtcidlnjpabgioaaGreatDoor
