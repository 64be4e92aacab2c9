import Derived.Test.YtcidlnjpabgioaaGreatDoorQJoinB
namespace Go.Proofs.YtcidlnjpabgioaaGreatDoor
open Go
set_option maxRecDepth 100000
theorem arrays_named : Tryz.prog.funcNamed "given.example/pub-bradawl/laws.FnLOArrays" = some 3 := by kernel_rfl
theorem arrays_place : (Rows.fnLOArraysRow.inPlace == Tryz.prog.inPlace 3) = true := by kernel_rfl
theorem arrays_unfollowed : (Rows.fnLOArraysRow.unfollowed == Tryz.prog.unfollowed 3) = true := by kernel_rfl
theorem arrays_recurses : (Rows.fnLOArraysRow.recurses == Tryz.prog.recurses 3) = true := by kernel_rfl
theorem arrays_vars : (Rows.fnLOArraysRow.named == Tryz.prog.varsNamed 3) = true := by kernel_rfl
theorem arrays_lifts : (Rows.fnLOArraysRow.lifted == Tryz.prog.liftsFinal) = true := by kernel_rfl
theorem arrays_keys : (Rows.fnLOArraysRow.plainKeys == Tryz.prog.plainKeys) = true := by kernel_rfl
theorem arrays_make : (Tryz.prog.make == some Rows.fnLOArraysRow.make) = true := by kernel_rfl
theorem arrays_joined : joinedFacts Tryz.prog 3 Tryz.f3 Rows.fnLOArraysSpec Rows.fnLOArraysRow = true :=
 joined_of (by kernel_rfl) laid_out maps_rowed (by kernel_rfl) (by kernel_rfl) (by kernel_rfl) no_stops (by kernel_rfl) no_knobs arrays_place arrays_unfollowed arrays_recurses arrays_vars
  (by kernel_rfl) (by kernel_rfl) (by kernel_rfl) (by kernel_rfl) (by kernel_rfl) (by kernel_rfl) (by kernel_rfl) (by kernel_rfl) (by kernel_rfl) arrays_keys (by kernel_rfl) stops_heard may_enter arrays_lifts arrays_make
  (by kernel_rfl) (by kernel_rfl) (by kernel_rfl) (by kernel_rfl)
theorem arrays_instance : Tryz.f3.isInstance Tryz.prog Rows.fnLOArraysRow.origin Rows.fnLOArraysRow.targs := of_decide_eq_true (by kernel_rfl)
theorem arrays_wrapper : Tryz.f3.isWrapper Tryz.prog Rows.fnLOArraysRow.wrapper Rows.fnLOArraysRow.mainSum := by unfold Func.isWrapper; first | (rw [if_pos (by decide +kernel)]; kernel_rfl) | (rw [if_neg (by decide +kernel)]; exact ⟨rfl, rfl⟩)
end Go.Proofs.YtcidlnjpabgioaaGreatDoor
