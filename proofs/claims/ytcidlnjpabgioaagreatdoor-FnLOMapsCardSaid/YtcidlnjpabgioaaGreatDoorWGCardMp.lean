/-
  FnLOMaps, THE TIED CARD: a column of maps has where each map ends, and then its keys and its values as columns, and the states of these; any type at most two deep in the maps, from 1 to 12 rows, at least one pair.
  Conditions: the row's own: the listed package-level variables begin as the program's text lays them (the card ties them).
-/
import Derived.Test.YtcidlnjpabgioaaGreatDoorWRowMp
import Derived.Test.YtcidlnjpabgioaaGreatDoorWJoinGMp
import Derived.Test.YtcidlnjpabgioaaGreatDoorWGTie
import Derived.Test.YtcidlnjpabgioaaGreatDoorCards
import Derived.SevenTiedAt
set_option maxRecDepth 100000
namespace Go.Proofs.YtcidlnjpabgioaaGreatDoor
open Go
theorem fnLOMaps_row_tie : Rows.fnLOMapsRow.laidByTextAt .later Tryz.pinned [.data, .data, .data, .data, .sentinel, .sentinel, .listed, .data, .data, .pinned] true :=
 OpenClaim.laidByTextAt_pinned rfl rfl tie rfl rfl rfl rfl (fun y hy _e => by
  simp only [Rows.fnLOMapsRow, List.zip_cons_cons, List.zip_nil_right, List.mem_cons, List.mem_nil_iff, or_false] at hy
  rcases hy with rfl | rfl | rfl | rfl | rfl | rfl | rfl | rfl | rfl | rfl
  · cases _e
  · cases _e
  · cases _e
  · cases _e
  · cases _e
  · cases _e
  · cases _e
  · cases _e
  · cases _e
  · exact ⟨pin_laid_unicode_utf8_first, by kernel_rfl⟩) fits1
theorem aFS (c : OpenClaim) (P : Program) (hs : c.start = .entering) : c.goesBy P = P.goesFrom c.func := by
 unfold OpenClaim.goesBy Program.goesAt
 rw [hs]
 simp
theorem aFY : false = Rows.fnLOMapsRow.goesBy Tryz.pinned.checked.prog := by
 have h : Tryz.prog.goesFrom "given.example/pub-bradawl/laws.FnLOMaps" = false := by
  unfold Program.goesFrom
  rw [nJ, Option.any_some, aDN]
 have hp : Tryz.pinned.checked.prog = Tryz.prog := by unfold Tryz.pinned Tryz.checked; rfl
 have hf : Rows.fnLOMapsRow.func = "given.example/pub-bradawl/laws.FnLOMaps" := rfl
 rw [aFS _ _ rfl, hp, hf, h]
theorem aJP : Rows.fnLOMapsRow.wfByText (OpenSpec.ofChange Rows.fnLOMapsSpec) = true := by kernel_rfl
theorem maps_card : Rows.FnLOMapsCardSaid :=
 Claim7.holds_tied_plain_at .later [] [.data, .data, .data, .data, .sentinel, .sentinel, .listed, .data, .data, .pinned] true (true, "4034e2885ad37c80a1a8cbb2098fa5464e780aac8a05fc8aeb6fc05506455eb2") true
  aDi (fun _ h => by cases h) aJP (fun _ h => by cases h) fnLOMaps_row_tie rfl ⟨rfl, rfl⟩ aGK rfl
  (fun f fn hf hfn => by
   obtain rfl : f = 4 := Option.some.inj (nJ.symm.trans hf) |>.symm
   obtain rfl : fn = Tryz.f4 := (Option.some.inj (Tryz.func4.symm.trans hfn)).symm
   exact ⟨aEf, fun j t ht => by
    rw [Tryz.params4] at ht
    rcases j with _ | _ | j
    · obtain rfl : t = 22 := by simpa using ht.symm
      exact aCV
    · obtain rfl : t = 5 := by simpa using ht.symm
      exact aGw
    · simp at ht⟩)
  aFY
#print axioms maps_card
end Go.Proofs.YtcidlnjpabgioaaGreatDoor
