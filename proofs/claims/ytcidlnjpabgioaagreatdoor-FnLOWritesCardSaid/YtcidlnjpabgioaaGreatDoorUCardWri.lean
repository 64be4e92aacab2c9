/-
  FnLOWrites, THE TIED CARD: what a column writes through a writer is what it encodes, and it gives back as many rows, and the same; any type at most three deep, from 1 to 20 rows.
  Conditions: the row's own: the listed package-level variables begin as the program's text lays them (the card ties them).
-/
import Derived.Test.YtcidlnjpabgioaaGreatDoorURowWri
import Derived.Test.YtcidlnjpabgioaaGreatDoorUJoinGWri
import Derived.Test.YtcidlnjpabgioaaGreatDoorUGTie
import Derived.Test.YtcidlnjpabgioaaGreatDoorCards
set_option maxRecDepth 100000
namespace Go.Proofs.YtcidlnjpabgioaaGreatDoor
open _root_.Go.Proofs.Tryz List Go
theorem fnLOWrites_row_tie:Rows.fnLOWritesRow.laidByTextAt .later Tryz.pinned [.data,.data,.data,.data,.sentinel,.sentinel,.listed,.data,.data,.pinned] true :=
 OpenClaim.laidByTextAt_pinned rfl rfl tie rfl rfl rfl rfl (fun y hy _e=>by
  simp only[Rows.fnLOWritesRow,zip_cons_cons,zip_nil_right,mem_cons,mem_nil_iff,or_false] at hy;rcases hy with rfl|rfl|rfl|rfl|rfl|rfl|rfl|rfl|rfl|rfl
  · cases _e
  · cases _e
  · cases _e
  · cases _e
  · cases _e
  · cases _e
  · cases _e
  · cases _e
  · cases _e
  · exact ⟨pin_laid_unicode_utf8_first,by kernel_rfl⟩) fits1
theorem aHX (c:OpenClaim) (P:Program) (hs:c.start=.entering):c.goesBy P=P.goesFrom c.func:=by
 unfold OpenClaim.goesBy Program.goesAt;rw[hs];simp
theorem aEn:false=Rows.fnLOWritesRow.goesBy Tryz.pinned.checked.prog:=by
 have h:Tryz.prog.goesFrom "given.example/pub-bradawl/laws.FnLOWrites" = false:=by
  unfold Program.goesFrom;rw[mM,Option.any_some,aCD]
 have hp:Tryz.pinned.checked.prog=Tryz.prog:=by unfold Tryz.pinned Tryz.checked;rfl
 have hf:Rows.fnLOWritesRow.func = "given.example/pub-bradawl/laws.FnLOWrites":=rfl;rw[aHX _ _ rfl,hp,hf,h]
theorem aJY:Rows.fnLOWritesRow.wfByText (OpenSpec.ofChange Rows.fnLOWritesSpec)=true:=by kernel_rfl
theorem writes_card:Rows.FnLOWritesCardSaid :=
 Claim7.holds_tied_plain_at .later [] [.data,.data,.data,.data,.sentinel,.sentinel,.listed,.data,.data,.pinned] true (true, "4034e2885ad37c80a1a8cbb2098fa5464e780aac8a05fc8aeb6fc05506455eb2") true
  aCE (fun _ h=>by cases h) aJY (fun _ h=>by cases h) fnLOWrites_row_tie rfl ⟨rfl,rfl⟩ aHO rfl
  (fun f fn hf ZW=>by
   obtain rfl:f=7:=Option.some.inj (mM.symm.trans hf) |>.symm
   obtain rfl:fn=Tryz.f7:=(Option.some.inj (func7.symm.trans ZW)).symm
   exact ⟨aEE,fun j t ht=>by
    rw[Tryz.params7] at ht;rcases j with _|_|j
    · obtain rfl:t=22:=by simpa using ht.symm
      exact aED
    · obtain rfl:t=5:=by simpa using ht.symm
      exact aHN
    · simp at ht⟩)
  aEn
#print axioms writes_card
end Go.Proofs.YtcidlnjpabgioaaGreatDoor
