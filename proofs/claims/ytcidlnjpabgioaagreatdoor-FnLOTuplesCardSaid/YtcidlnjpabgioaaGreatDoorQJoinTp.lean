import Derived.Test.YtcidlnjpabgioaaGreatDoorQJoinB
namespace Go.Proofs.YtcidlnjpabgioaaGreatDoor
open Go
set_option maxRecDepth 100000
theorem tuples_named : Tryz.prog.funcNamed "given.example/pub-bradawl/laws.FnLOTuples" = some 6 := by kernel_rfl
theorem tuples_place : (Rows.fnLOTuplesRow.inPlace == Tryz.prog.inPlace 6) = true := by kernel_rfl
theorem tuples_unfollowed : (Rows.fnLOTuplesRow.unfollowed == Tryz.prog.unfollowed 6) = true := by kernel_rfl
theorem tuples_recurses : (Rows.fnLOTuplesRow.recurses == Tryz.prog.recurses 6) = true := by kernel_rfl
theorem tuples_vars : (Rows.fnLOTuplesRow.named == Tryz.prog.varsNamed 6) = true := by kernel_rfl
theorem tuples_lifts : (Rows.fnLOTuplesRow.lifted == Tryz.prog.liftsFinal) = true := by kernel_rfl
theorem tuples_keys : (Rows.fnLOTuplesRow.plainKeys == Tryz.prog.plainKeys) = true := by kernel_rfl
theorem tuples_make : (Tryz.prog.make == some Rows.fnLOTuplesRow.make) = true := by kernel_rfl
theorem tuples_joined : joinedFacts Tryz.prog 6 Tryz.f6 Rows.fnLOTuplesSpec Rows.fnLOTuplesRow = true :=
 joined_of (by kernel_rfl) laid_out maps_rowed (by kernel_rfl) (by kernel_rfl) (by kernel_rfl) no_stops (by kernel_rfl) no_knobs tuples_place tuples_unfollowed tuples_recurses tuples_vars
  (by kernel_rfl) (by kernel_rfl) (by kernel_rfl) (by kernel_rfl) (by kernel_rfl) (by kernel_rfl) (by kernel_rfl) (by kernel_rfl) (by kernel_rfl) tuples_keys (by kernel_rfl) stops_heard may_enter tuples_lifts tuples_make
  (by kernel_rfl) (by kernel_rfl) (by kernel_rfl) (by kernel_rfl)
theorem tuples_instance : Tryz.f6.isInstance Tryz.prog Rows.fnLOTuplesRow.origin Rows.fnLOTuplesRow.targs := of_decide_eq_true (by kernel_rfl)
theorem tuples_wrapper : Tryz.f6.isWrapper Tryz.prog Rows.fnLOTuplesRow.wrapper Rows.fnLOTuplesRow.mainSum := by unfold Func.isWrapper; first | (rw [if_pos (by decide +kernel)]; kernel_rfl) | (rw [if_neg (by decide +kernel)]; exact ⟨rfl, rfl⟩)
end Go.Proofs.YtcidlnjpabgioaaGreatDoor
