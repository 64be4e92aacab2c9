/-
  FnLONulls, THE TIED CARD: a column that may be NULL has a byte for each row, 1 where it is, and then a column of its type, with a zero in its place; any type without others in it, from 1 to 30 rows.
  Conditions: the row's own: the listed package-level variables begin as the program's text lays them (the card ties them).
-/
import Derived.Test.YtcidlnjpabgioaaGreatDoorGRow
import Derived.Test.YtcidlnjpabgioaaGreatDoorJoinN
import Derived.Test.YtcidlnjpabgioaaGreatDoorRows
import Derived.SevenTiedAt
import Derived.Test.YtcidlnjpabgioaaGreatDoorJoinG
import Derived.Test.YtcidlnjpabgioaaGreatDoorGTie
import Derived.Test.YtcidlnjpabgioaaGreatDoorCards
namespace Go.Proofs.YtcidlnjpabgioaaGreatDoor
open Go.ChangeShapes Go.WideShapes Go.ChangeAt Go.RowKit

theorem nulls_holds : Rows.FnLONullsSaid :=
  OpenClaim.holds_of_wide 5 Tryz.f5 rfl rfl rfl rfl rfl rfl rfl ⟨rfl, rfl, rfl, rfl, rfl⟩ rfl rfl rfl rfl rfl nulls_named Tryz.func5 nulls_joined
    nulls_instance nulls_wrapper (fun os started H enc _ => nulls_lifted os started H enc)
end Go.Proofs.YtcidlnjpabgioaaGreatDoor
namespace Go.Proofs.YtcidlnjpabgioaaGreatDoor
open Go
set_option maxRecDepth 100000
theorem card_main : Tryz.pinned.checked.prog.mainIs = some (true, "4034e2885ad37c80a1a8cbb2098fa5464e780aac8a05fc8aeb6fc05506455eb2".toList) := by kernel_rfl
theorem card_looks : true = Tryz.pinned.checked.prog.looks [] := by kernel_rfl
theorem card_bytes : Tryz.prog.wantsStandIn 22 = false := by kernel_rfl
theorem card_byte : Tryz.prog.wantsStandIn 5 = false := by kernel_rfl
end Go.Proofs.YtcidlnjpabgioaaGreatDoor
namespace Go.Proofs.YtcidlnjpabgioaaGreatDoor
open Go
set_option maxRecDepth 100000
theorem goesBy_eq (c : OpenClaim) (P : Program) (hs : c.start = .entering) : c.goesBy P = P.goesFrom c.func := by
  unfold OpenClaim.goesBy Program.goesAt
  rw [hs]
  simp
theorem nulls_goes : false = Rows.fnLONullsRow.goesBy Tryz.pinned.checked.prog := by
  have h : Tryz.prog.goesFrom "given.example/pub-bradawl/laws.FnLONulls" = false := by
    unfold Program.goesFrom
    rw [nulls_named, Option.any_some, nulls_goes0]
  have hp : Tryz.pinned.checked.prog = Tryz.prog := by unfold Tryz.pinned Tryz.checked; rfl
  have hf : Rows.fnLONullsRow.func = "given.example/pub-bradawl/laws.FnLONulls" := rfl
  rw [goesBy_eq _ _ rfl, hp, hf, h]
theorem nulls_wf : Rows.fnLONullsRow.wfByText (OpenSpec.ofChange Rows.fnLONullsSpec) = true := by kernel_rfl
theorem nulls_card : Rows.FnLONullsCardSaid :=
  Claim7.holds_tied_plain_at .later [] [.data, .data, .data, .data, .sentinel, .sentinel, .listed, .data, .data, .pinned] true (true, "4034e2885ad37c80a1a8cbb2098fa5464e780aac8a05fc8aeb6fc05506455eb2") true
    nulls_holds (fun _ h => by cases h) nulls_wf (fun _ h => by cases h) fnLONulls_row_tie rfl ⟨rfl, rfl⟩ card_main rfl
    (fun f fn hf hfn => by
      obtain rfl : f = 5 := Option.some.inj (nulls_named.symm.trans hf) |>.symm
      obtain rfl : fn = Tryz.f5 := (Option.some.inj (Tryz.func5.symm.trans hfn)).symm
      exact ⟨card_looks, fun j t ht => by
        rw [Tryz.params5] at ht
        rcases j with _ | _ | j
        · obtain rfl : t = 22 := by simpa using ht.symm
          exact card_bytes
        · obtain rfl : t = 5 := by simpa using ht.symm
          exact card_byte
        · simp at ht⟩)
    nulls_goes
#print axioms nulls_card
end Go.Proofs.YtcidlnjpabgioaaGreatDoor
