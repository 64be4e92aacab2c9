import Derived.Test.YtcidlnjpabgioaaGreatDoorQTieL
namespace Go.Proofs.YtcidlnjpabgioaaGreatDoor
open Go
set_option maxRecDepth 100000
theorem vars_named : Tryz.prog.funcNamed "gosem.cut.vars" = some 716 := by kernel_rfl
theorem vars_id : varsId Tryz.prog = 716 := by
 unfold varsId
 rw [vars_named]
 rfl
theorem tie_vars : (Tryz.prog.funcNamed "gosem.cut.vars").isSome = true := by rw [vars_named]; rfl
end Go.Proofs.YtcidlnjpabgioaaGreatDoor
