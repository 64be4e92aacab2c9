/-
  FnLOArrays, THE TIED CARD: a column of arrays has where each array ends, and then its items as a column of their type, and the state of this; any type at most two deep in the arrays, from 1 to 12 rows, at least one item.
  Conditions: the row's own: the listed package-level variables begin as the program's text lays them (the card ties them).
-/
import Derived.Test.YtcidlnjpabgioaaGreatDoorRows
import Derived.SevenTiedAt
import Derived.Test.YtcidlnjpabgioaaGreatDoorQRowArr
import Derived.Test.YtcidlnjpabgioaaGreatDoorQJoinGArr
import Derived.Test.YtcidlnjpabgioaaGreatDoorQGTie
import Derived.Test.YtcidlnjpabgioaaGreatDoorCards
namespace Go.Proofs.YtcidlnjpabgioaaGreatDoor
open Go
set_option maxRecDepth 100000
theorem card_main : Tryz.pinned.checked.prog.mainIs = some (true, "4034e2885ad37c80a1a8cbb2098fa5464e780aac8a05fc8aeb6fc05506455eb2".toList) := by kernel_rfl
theorem card_looks : true = Tryz.pinned.checked.prog.looks [] := by kernel_rfl
theorem card_bytes : Tryz.prog.wantsStandIn 22 = false := by kernel_rfl
theorem card_byte : Tryz.prog.wantsStandIn 5 = false := by kernel_rfl
end Go.Proofs.YtcidlnjpabgioaaGreatDoor
namespace Go.Proofs.YtcidlnjpabgioaaGreatDoor
open Go
set_option maxRecDepth 100000
theorem fnLOArrays_row_tie : Rows.fnLOArraysRow.laidByTextAt .later Tryz.pinned [.data, .data, .data, .data, .sentinel, .sentinel, .listed, .data, .data, .pinned] true :=
 OpenClaim.laidByTextAt_pinned rfl rfl tie rfl rfl rfl rfl (fun y hy _e => by
  simp only [Rows.fnLOArraysRow, List.zip_cons_cons, List.zip_nil_right, List.mem_cons, List.mem_nil_iff, or_false] at hy
  rcases hy with rfl | rfl | rfl | rfl | rfl | rfl | rfl | rfl | rfl | rfl
  · cases _e
  · cases _e
  · cases _e
  · cases _e
  · cases _e
  · cases _e
  · cases _e
  · cases _e
  · cases _e
  · exact ⟨pin_laid_unicode_utf8_first, by kernel_rfl⟩) fits1
theorem goesBy_eq (c : OpenClaim) (P : Program) (hs : c.start = .entering) : c.goesBy P = P.goesFrom c.func := by
 unfold OpenClaim.goesBy Program.goesAt
 rw [hs]
 simp
theorem arrays_goes : false = Rows.fnLOArraysRow.goesBy Tryz.pinned.checked.prog := by
 have h : Tryz.prog.goesFrom "given.example/pub-bradawl/laws.FnLOArrays" = false := by
  unfold Program.goesFrom
  rw [arrays_named, Option.any_some, arrays_goes0]
 have hp : Tryz.pinned.checked.prog = Tryz.prog := by unfold Tryz.pinned Tryz.checked; rfl
 have hf : Rows.fnLOArraysRow.func = "given.example/pub-bradawl/laws.FnLOArrays" := rfl
 rw [goesBy_eq _ _ rfl, hp, hf, h]
theorem arrays_wf : Rows.fnLOArraysRow.wfByText (OpenSpec.ofChange Rows.fnLOArraysSpec) = true := by kernel_rfl
theorem arrays_card : Rows.FnLOArraysCardSaid :=
 Claim7.holds_tied_plain_at .later [] [.data, .data, .data, .data, .sentinel, .sentinel, .listed, .data, .data, .pinned] true (true, "4034e2885ad37c80a1a8cbb2098fa5464e780aac8a05fc8aeb6fc05506455eb2") true
  arrays_holds (fun _ h => by cases h) arrays_wf (fun _ h => by cases h) fnLOArrays_row_tie rfl ⟨rfl, rfl⟩ card_main rfl
  (fun f fn hf hfn => by
   obtain rfl : f = 3 := Option.some.inj (arrays_named.symm.trans hf) |>.symm
   obtain rfl : fn = Tryz.f3 := (Option.some.inj (Tryz.func3.symm.trans hfn)).symm
   exact ⟨card_looks, fun j t ht => by
    rw [Tryz.params3] at ht
    rcases j with _ | _ | j
    · obtain rfl : t = 22 := by simpa using ht.symm
      exact card_bytes
    · obtain rfl : t = 5 := by simpa using ht.symm
      exact card_byte
    · simp at ht⟩)
  arrays_goes
#print axioms arrays_card
end Go.Proofs.YtcidlnjpabgioaaGreatDoor
