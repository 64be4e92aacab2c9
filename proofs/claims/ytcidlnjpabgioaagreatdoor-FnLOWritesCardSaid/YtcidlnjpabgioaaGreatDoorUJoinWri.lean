import Derived.Test.YtcidlnjpabgioaaGreatDoorUJoinB
set_option maxRecDepth 100000
namespace Go.Proofs.YtcidlnjpabgioaaGreatDoor
open Go
theorem mM:Tryz.prog.funcNamed "given.example/pub-bradawl/laws.FnLOWrites" = some 7:=by kernel_rfl
theorem aCG:(Rows.fnLOWritesRow.inPlace == Tryz.prog.inPlace 7)=true:=by kernel_rfl
theorem tC:(Rows.fnLOWritesRow.unfollowed == Tryz.prog.unfollowed 7)=true:=by kernel_rfl
theorem xC:(Rows.fnLOWritesRow.recurses == Tryz.prog.recurses 7)=true:=by kernel_rfl
theorem aEq:(Rows.fnLOWritesRow.named == Tryz.prog.varsNamed 7)=true:=by kernel_rfl
theorem aCF:(Rows.fnLOWritesRow.lifted == Tryz.prog.liftsFinal)=true:=by kernel_rfl
theorem aEo:(Rows.fnLOWritesRow.plainKeys == Tryz.prog.plainKeys)=true:=by kernel_rfl
theorem aEp:(Tryz.prog.make == some Rows.fnLOWritesRow.make)=true:=by kernel_rfl
theorem aAQ:joinedFacts Tryz.prog 7 Tryz.f7 Rows.fnLOWritesSpec Rows.fnLOWritesRow=true :=
 aIH (by kernel_rfl) rE aFN (by kernel_rfl) (by kernel_rfl) (by kernel_rfl) aLS (by kernel_rfl) aLR aCG tC xC aEq
  (by kernel_rfl) (by kernel_rfl) (by kernel_rfl) (by kernel_rfl) (by kernel_rfl) (by kernel_rfl) (by kernel_rfl) (by kernel_rfl) (by kernel_rfl) aEo (by kernel_rfl) aDP may_enter aCF aEp
  (by kernel_rfl) (by kernel_rfl) (by kernel_rfl) (by kernel_rfl)
theorem xB:Tryz.f7.isInstance Tryz.prog Rows.fnLOWritesRow.origin Rows.fnLOWritesRow.targs:=of_decide_eq_true (by kernel_rfl)
theorem aAe:Tryz.f7.isWrapper Tryz.prog Rows.fnLOWritesRow.wrapper Rows.fnLOWritesRow.mainSum:=by unfold Func.isWrapper;first|(rw[if_pos (by decide +kernel)];kernel_rfl)|(rw[if_neg (by decide +kernel)];exact ⟨rfl,rfl⟩)
end Go.Proofs.YtcidlnjpabgioaaGreatDoor
