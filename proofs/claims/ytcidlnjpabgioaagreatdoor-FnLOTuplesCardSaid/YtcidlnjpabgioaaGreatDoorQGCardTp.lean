/-
  FnLOTuples, THE TIED CARD: a column of tuples has the columns of its parts, one behind the other, and their states; from 1 to 4 types at most two deep, from 1 to 12 rows.
  Conditions: the row's own: the listed package-level variables begin as the program's text lays them (the card ties them).
-/
import Derived.Test.YtcidlnjpabgioaaGreatDoorQRowTp
import Derived.Test.YtcidlnjpabgioaaGreatDoorQJoinGTp
import Derived.Test.YtcidlnjpabgioaaGreatDoorQGTie
import Derived.Test.YtcidlnjpabgioaaGreatDoorCards
import Derived.SevenTiedAt
namespace Go.Proofs.YtcidlnjpabgioaaGreatDoor
open Go
set_option maxRecDepth 100000
theorem fnLOTuples_row_tie : Rows.fnLOTuplesRow.laidByTextAt .later Tryz.pinned [.data, .data, .data, .data, .sentinel, .sentinel, .listed, .data, .data, .pinned] true :=
 OpenClaim.laidByTextAt_pinned rfl rfl tie rfl rfl rfl rfl (fun y hy _e => by
  simp only [Rows.fnLOTuplesRow, List.zip_cons_cons, List.zip_nil_right, List.mem_cons, List.mem_nil_iff, or_false] at hy
  rcases hy with rfl | rfl | rfl | rfl | rfl | rfl | rfl | rfl | rfl | rfl
  · cases _e
  · cases _e
  · cases _e
  · cases _e
  · cases _e
  · cases _e
  · cases _e
  · cases _e
  · cases _e
  · exact ⟨pin_laid_unicode_utf8_first, by kernel_rfl⟩) fits1
theorem goesBy_eq (c : OpenClaim) (P : Program) (hs : c.start = .entering) : c.goesBy P = P.goesFrom c.func := by
 unfold OpenClaim.goesBy Program.goesAt
 rw [hs]
 simp
theorem tuples_goes : false = Rows.fnLOTuplesRow.goesBy Tryz.pinned.checked.prog := by
 have h : Tryz.prog.goesFrom "given.example/pub-bradawl/laws.FnLOTuples" = false := by
  unfold Program.goesFrom
  rw [tuples_named, Option.any_some, tuples_goes0]
 have hp : Tryz.pinned.checked.prog = Tryz.prog := by unfold Tryz.pinned Tryz.checked; rfl
 have hf : Rows.fnLOTuplesRow.func = "given.example/pub-bradawl/laws.FnLOTuples" := rfl
 rw [goesBy_eq _ _ rfl, hp, hf, h]
theorem tuples_wf : Rows.fnLOTuplesRow.wfByText (OpenSpec.ofChange Rows.fnLOTuplesSpec) = true := by kernel_rfl
theorem tuples_card : Rows.FnLOTuplesCardSaid :=
 Claim7.holds_tied_plain_at .later [] [.data, .data, .data, .data, .sentinel, .sentinel, .listed, .data, .data, .pinned] true (true, "4034e2885ad37c80a1a8cbb2098fa5464e780aac8a05fc8aeb6fc05506455eb2") true
  tuples_holds (fun _ h => by cases h) tuples_wf (fun _ h => by cases h) fnLOTuples_row_tie rfl ⟨rfl, rfl⟩ card_main rfl
  (fun f fn hf hfn => by
   obtain rfl : f = 6 := Option.some.inj (tuples_named.symm.trans hf) |>.symm
   obtain rfl : fn = Tryz.f6 := (Option.some.inj (Tryz.func6.symm.trans hfn)).symm
   exact ⟨card_looks, fun j t ht => by
    rw [Tryz.params6] at ht
    rcases j with _ | _ | _ | j
    · obtain rfl : t = 22 := by simpa using ht.symm
      exact card_bytes
    · obtain rfl : t = 5 := by simpa using ht.symm
      exact card_byte
    · obtain rfl : t = 5 := by simpa using ht.symm
      exact card_byte
    · simp at ht⟩)
  tuples_goes
#print axioms tuples_card
end Go.Proofs.YtcidlnjpabgioaaGreatDoor
