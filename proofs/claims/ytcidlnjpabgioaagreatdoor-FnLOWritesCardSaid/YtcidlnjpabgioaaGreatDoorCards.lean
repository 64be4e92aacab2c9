/-
  DERIVED. GIVEN WITH THE SEED: THE CARDS: each row of YtcidlnjpabgioaaGreatDoorRows.lean that lists a variable, with what it lists TIED to the program's text (the seventh form; the later family's looks); each row that meets fmt, with fmt's text TOLD by the authors' own Lean function (tested against real Go, not proved from fmt's source: count such statements apart). THE CARD IS WHAT COUNTS. Prove the row's statement (the work); the ties are given (YtcidlnjpabgioaaGreatDoorTie.lean); close each card by the builder's one call (the guide's Derived/Test/ToyasCard.lean, 'card_holds'). Laid BY PROGRAM, IN A SANDBOX (cutbox-door.mjs). By AI agents, Wed Nov 11 2026. No macro, syntax, notation, axiom, sorry.
-/
import Derived.Test.YtcidlnjpabgioaaGreatDoorRows
import GoSem.ClaimSeven
namespace Go.Proofs.YtcidlnjpabgioaaGreatDoor
namespace Rows

/-- THE TIED CARD OF 'laws.FnLOArrays'. -/
def fnLOArraysCard : Claim7 := { stood := { row := fnLOArraysRow, standIns := [], harness := (true, "4034e2885ad37c80a1a8cbb2098fa5464e780aac8a05fc8aeb6fc05506455eb2"), looks := true }, kinds := [], alts := [], laidByText := true, laidKinds := [.data, .data, .data, .data, .sentinel, .sentinel, .listed, .data, .data, .pinned], laidTests := true, laidLooks := .later }
def FnLOArraysCardSaid : Prop := Claim7.holds Tryz.pinned (.plain (OpenSpec.ofChange fnLOArraysSpec)) fnLOArraysCard

/-- THE TIED CARD OF 'laws.FnLOMaps'. -/
def fnLOMapsCard : Claim7 := { stood := { row := fnLOMapsRow, standIns := [], harness := (true, "4034e2885ad37c80a1a8cbb2098fa5464e780aac8a05fc8aeb6fc05506455eb2"), looks := true }, kinds := [], alts := [], laidByText := true, laidKinds := [.data, .data, .data, .data, .sentinel, .sentinel, .listed, .data, .data, .pinned], laidTests := true, laidLooks := .later }
def FnLOMapsCardSaid : Prop := Claim7.holds Tryz.pinned (.plain (OpenSpec.ofChange fnLOMapsSpec)) fnLOMapsCard

/-- THE TIED CARD OF 'laws.FnLONulls'. -/
def fnLONullsCard : Claim7 := { stood := { row := fnLONullsRow, standIns := [], harness := (true, "4034e2885ad37c80a1a8cbb2098fa5464e780aac8a05fc8aeb6fc05506455eb2"), looks := true }, kinds := [], alts := [], laidByText := true, laidKinds := [.data, .data, .data, .data, .sentinel, .sentinel, .listed, .data, .data, .pinned], laidTests := true, laidLooks := .later }
def FnLONullsCardSaid : Prop := Claim7.holds Tryz.pinned (.plain (OpenSpec.ofChange fnLONullsSpec)) fnLONullsCard

/-- THE TIED CARD OF 'laws.FnLOTuples'. -/
def fnLOTuplesCard : Claim7 := { stood := { row := fnLOTuplesRow, standIns := [], harness := (true, "4034e2885ad37c80a1a8cbb2098fa5464e780aac8a05fc8aeb6fc05506455eb2"), looks := true }, kinds := [], alts := [], laidByText := true, laidKinds := [.data, .data, .data, .data, .sentinel, .sentinel, .listed, .data, .data, .pinned], laidTests := true, laidLooks := .later }
def FnLOTuplesCardSaid : Prop := Claim7.holds Tryz.pinned (.plain (OpenSpec.ofChange fnLOTuplesSpec)) fnLOTuplesCard

/-- THE TIED CARD OF 'laws.FnLOWrites'. -/
def fnLOWritesCard : Claim7 := { stood := { row := fnLOWritesRow, standIns := [], harness := (true, "4034e2885ad37c80a1a8cbb2098fa5464e780aac8a05fc8aeb6fc05506455eb2"), looks := true }, kinds := [], alts := [], laidByText := true, laidKinds := [.data, .data, .data, .data, .sentinel, .sentinel, .listed, .data, .data, .pinned], laidTests := true, laidLooks := .later }
def FnLOWritesCardSaid : Prop := Claim7.holds Tryz.pinned (.plain (OpenSpec.ofChange fnLOWritesSpec)) fnLOWritesCard

/-- THE SECOND FORM's CARD OF 'laws.FnLOArrays'. -/
def fnLOArraysUptoCard : Claim7 := { stood := { row := fnLOArraysUptoRow, standIns := [], harness := (true, "4034e2885ad37c80a1a8cbb2098fa5464e780aac8a05fc8aeb6fc05506455eb2"), looks := true }, kinds := [], alts := [], laidByText := true, laidKinds := [.data, .data, .data, .data, .sentinel, .sentinel, .listed, .data, .data, .pinned], laidTests := true, laidLooks := .later }
def FnLOArraysUptoCardSaid : Prop := Claim7.holds Tryz.pinned (.plain (OpenSpec.upto fnLOArraysSpec)) fnLOArraysUptoCard

/-- THE SECOND FORM's CARD OF 'laws.FnLOMaps'. -/
def fnLOMapsUptoCard : Claim7 := { stood := { row := fnLOMapsUptoRow, standIns := [], harness := (true, "4034e2885ad37c80a1a8cbb2098fa5464e780aac8a05fc8aeb6fc05506455eb2"), looks := true }, kinds := [], alts := [], laidByText := true, laidKinds := [.data, .data, .data, .data, .sentinel, .sentinel, .listed, .data, .data, .pinned], laidTests := true, laidLooks := .later }
def FnLOMapsUptoCardSaid : Prop := Claim7.holds Tryz.pinned (.plain (OpenSpec.upto fnLOMapsSpec)) fnLOMapsUptoCard

/-- THE SECOND FORM's CARD OF 'laws.FnLONulls'. -/
def fnLONullsUptoCard : Claim7 := { stood := { row := fnLONullsUptoRow, standIns := [], harness := (true, "4034e2885ad37c80a1a8cbb2098fa5464e780aac8a05fc8aeb6fc05506455eb2"), looks := true }, kinds := [], alts := [], laidByText := true, laidKinds := [.data, .data, .data, .data, .sentinel, .sentinel, .listed, .data, .data, .pinned], laidTests := true, laidLooks := .later }
def FnLONullsUptoCardSaid : Prop := Claim7.holds Tryz.pinned (.plain (OpenSpec.upto fnLONullsSpec)) fnLONullsUptoCard

/-- THE SECOND FORM's CARD OF 'laws.FnLOTuples'. -/
def fnLOTuplesUptoCard : Claim7 := { stood := { row := fnLOTuplesUptoRow, standIns := [], harness := (true, "4034e2885ad37c80a1a8cbb2098fa5464e780aac8a05fc8aeb6fc05506455eb2"), looks := true }, kinds := [], alts := [], laidByText := true, laidKinds := [.data, .data, .data, .data, .sentinel, .sentinel, .listed, .data, .data, .pinned], laidTests := true, laidLooks := .later }
def FnLOTuplesUptoCardSaid : Prop := Claim7.holds Tryz.pinned (.plain (OpenSpec.upto fnLOTuplesSpec)) fnLOTuplesUptoCard

/-- THE SECOND FORM's CARD OF 'laws.FnLOWrites'. -/
def fnLOWritesUptoCard : Claim7 := { stood := { row := fnLOWritesUptoRow, standIns := [], harness := (true, "4034e2885ad37c80a1a8cbb2098fa5464e780aac8a05fc8aeb6fc05506455eb2"), looks := true }, kinds := [], alts := [], laidByText := true, laidKinds := [.data, .data, .data, .data, .sentinel, .sentinel, .listed, .data, .data, .pinned], laidTests := true, laidLooks := .later }
def FnLOWritesUptoCardSaid : Prop := Claim7.holds Tryz.pinned (.plain (OpenSpec.upto fnLOWritesSpec)) fnLOWritesUptoCard
end Rows
end Go.Proofs.YtcidlnjpabgioaaGreatDoor
