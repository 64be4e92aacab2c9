/- FnLONulls: what its row asks of the program. -/
import Derived.Test.YtcidlnjpabgioaaGreatDoorJoinB
namespace Go.Proofs.YtcidlnjpabgioaaGreatDoor
open Go
set_option maxRecDepth 100000
theorem nulls_named : Tryz.prog.funcNamed "given.example/pub-bradawl/laws.FnLONulls" = some 5 := by kernel_rfl
theorem nulls_place : (Rows.fnLONullsRow.inPlace == Tryz.prog.inPlace 5) = true := by kernel_rfl
theorem nulls_unfollowed : (Rows.fnLONullsRow.unfollowed == Tryz.prog.unfollowed 5) = true := by kernel_rfl
theorem nulls_recurses : (Rows.fnLONullsRow.recurses == Tryz.prog.recurses 5) = true := by kernel_rfl
theorem nulls_vars : (Rows.fnLONullsRow.named == Tryz.prog.varsNamed 5) = true := by kernel_rfl
theorem nulls_lifts : (Rows.fnLONullsRow.lifted == Tryz.prog.liftsFinal) = true := by kernel_rfl
theorem nulls_keys : (Rows.fnLONullsRow.plainKeys == Tryz.prog.plainKeys) = true := by kernel_rfl
theorem nulls_make : (Tryz.prog.make == some Rows.fnLONullsRow.make) = true := by kernel_rfl
theorem nulls_joined : joinedFacts Tryz.prog 5 Tryz.f5 Rows.fnLONullsSpec Rows.fnLONullsRow = true :=
  joined_of (by kernel_rfl) laid_out maps_rowed (by kernel_rfl) (by kernel_rfl) (by kernel_rfl) no_stops (by kernel_rfl) no_knobs nulls_place nulls_unfollowed nulls_recurses nulls_vars
    (by kernel_rfl) (by kernel_rfl) (by kernel_rfl) (by kernel_rfl) (by kernel_rfl) (by kernel_rfl) (by kernel_rfl) (by kernel_rfl) (by kernel_rfl) nulls_keys (by kernel_rfl) stops_heard may_enter nulls_lifts nulls_make
    (by kernel_rfl) (by kernel_rfl) (by kernel_rfl) (by kernel_rfl)
theorem nulls_instance : Tryz.f5.isInstance Tryz.prog Rows.fnLONullsRow.origin Rows.fnLONullsRow.targs := of_decide_eq_true (by kernel_rfl)
theorem nulls_wrapper : Tryz.f5.isWrapper Tryz.prog Rows.fnLONullsRow.wrapper Rows.fnLONullsRow.mainSum := by unfold Func.isWrapper; first | (rw [if_pos (by decide +kernel)]; kernel_rfl) | (rw [if_neg (by decide +kernel)]; exact ⟨rfl, rfl⟩)
end Go.Proofs.YtcidlnjpabgioaaGreatDoor
