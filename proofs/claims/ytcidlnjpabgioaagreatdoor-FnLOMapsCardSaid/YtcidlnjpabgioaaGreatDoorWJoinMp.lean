import Derived.Test.YtcidlnjpabgioaaGreatDoorWJoinB
set_option maxRecDepth 100000
namespace Go.Proofs.YtcidlnjpabgioaaGreatDoor
open Go
theorem nJ : Tryz.prog.funcNamed "given.example/pub-bradawl/laws.FnLOMaps" = some 4 := by kernel_rfl
theorem aDq : (Rows.fnLOMapsRow.inPlace == Tryz.prog.inPlace 4) = true := by kernel_rfl
theorem uT : (Rows.fnLOMapsRow.unfollowed == Tryz.prog.unfollowed 4) = true := by kernel_rfl
theorem yK : (Rows.fnLOMapsRow.recurses == Tryz.prog.recurses 4) = true := by kernel_rfl
theorem aFL : (Rows.fnLOMapsRow.named == Tryz.prog.varsNamed 4) = true := by kernel_rfl
theorem aDP : (Rows.fnLOMapsRow.lifted == Tryz.prog.liftsFinal) = true := by kernel_rfl
theorem aFE : (Rows.fnLOMapsRow.plainKeys == Tryz.prog.plainKeys) = true := by kernel_rfl
theorem aGq : (Tryz.prog.make == some Rows.fnLOMapsRow.make) = true := by kernel_rfl
theorem aBH : joinedFacts Tryz.prog 4 Tryz.f4 Rows.fnLOMapsSpec Rows.fnLOMapsRow = true :=
 aFH (by kernel_rfl) oM aDY (by kernel_rfl) (by kernel_rfl) (by kernel_rfl) aIS (by kernel_rfl) aHB aDq uT yK aFL
  (by kernel_rfl) (by kernel_rfl) (by kernel_rfl) (by kernel_rfl) (by kernel_rfl) (by kernel_rfl) (by kernel_rfl) (by kernel_rfl) (by kernel_rfl) aFE (by kernel_rfl) aCn may_enter aDP aGq
  (by kernel_rfl) (by kernel_rfl) (by kernel_rfl) (by kernel_rfl)
theorem zF : Tryz.f4.isInstance Tryz.prog Rows.fnLOMapsRow.origin Rows.fnLOMapsRow.targs := of_decide_eq_true (by kernel_rfl)
theorem aAw : Tryz.f4.isWrapper Tryz.prog Rows.fnLOMapsRow.wrapper Rows.fnLOMapsRow.mainSum := by unfold Func.isWrapper; first | (rw [if_pos (by decide +kernel)]; kernel_rfl) | (rw [if_neg (by decide +kernel)]; exact ⟨rfl, rfl⟩)
end Go.Proofs.YtcidlnjpabgioaaGreatDoor
