/-
  DERIVED. GIVEN WITH THE SEED: THE CARDS: each row of YtoopklfabccmnaaGreatDoorRows.lean that lists a variable, with what it lists TIED to the program's text (the seventh form; the later family's looks); each row that meets fmt, with fmt's text TOLD by the authors' own Lean function (tested against real Go, not proved from fmt's source: count such statements apart). THE CARD IS WHAT COUNTS. Prove the row's statement (the work); the ties are given (YtoopklfabccmnaaGreatDoorTie.lean); close each card by the builder's one call (the guide's Derived/Test/ToyasCard.lean, 'card_holds'). Laid BY PROGRAM, IN A SANDBOX (cutbox-door.mjs). By AI agents, Wed Nov 11 2026. No macro, syntax, notation, axiom, sorry.
-/
import Derived.Test.YtoopklfabccmnaaGreatDoorRows
import GoSem.ClaimSeven
namespace Go.Proofs.YtoopklfabccmnaaGreatDoor
namespace Rows

/-- THE TIED CARD OF 'laws.FnTellOffsetCommitRequest'. -/
def fnTellOffsetCommitRequestCard : Claim7 := { stood := { row := fnTellOffsetCommitRequestRow, standIns := [], harness := (true, "ececd73a0e2e05fcba0607d475bbb4ad2391970206a51bee5bc2639215cbf3a3"), looks := false }, kinds := [], alts := [], laidByText := true, laidKinds := [.sentinel], laidTests := true, laidLooks := .later }
def FnTellOffsetCommitRequestCardSaid : Prop := Claim7.holds Tryz.pinned (.plain (OpenSpec.ofChange fnTellOffsetCommitRequestSpec)) fnTellOffsetCommitRequestCard

/-- THE TIED CARD OF 'laws.FnTellTxnOffsetCommitRequest'. -/
def fnTellTxnOffsetCommitRequestCard : Claim7 := { stood := { row := fnTellTxnOffsetCommitRequestRow, standIns := [], harness := (true, "ececd73a0e2e05fcba0607d475bbb4ad2391970206a51bee5bc2639215cbf3a3"), looks := false }, kinds := [], alts := [], laidByText := true, laidKinds := [.sentinel], laidTests := true, laidLooks := .later }
def FnTellTxnOffsetCommitRequestCardSaid : Prop := Claim7.holds Tryz.pinned (.plain (OpenSpec.ofChange fnTellTxnOffsetCommitRequestSpec)) fnTellTxnOffsetCommitRequestCard

/-- THE TIED CARD OF 'laws.FnTellDeleteTopicsResponse'. -/
def fnTellDeleteTopicsResponseCard : Claim7 := { stood := { row := fnTellDeleteTopicsResponseRow, standIns := [], harness := (true, "ececd73a0e2e05fcba0607d475bbb4ad2391970206a51bee5bc2639215cbf3a3"), looks := false }, kinds := [], alts := [], laidByText := true, laidKinds := [.sentinel], laidTests := true, laidLooks := .later }
def FnTellDeleteTopicsResponseCardSaid : Prop := Claim7.holds Tryz.pinned (.plain (OpenSpec.ofChange fnTellDeleteTopicsResponseSpec)) fnTellDeleteTopicsResponseCard

/-- THE TIED CARD OF 'laws.FnTellBeginQuorumEpochResponse'. -/
def fnTellBeginQuorumEpochResponseCard : Claim7 := { stood := { row := fnTellBeginQuorumEpochResponseRow, standIns := [], harness := (true, "ececd73a0e2e05fcba0607d475bbb4ad2391970206a51bee5bc2639215cbf3a3"), looks := false }, kinds := [], alts := [], laidByText := true, laidKinds := [.sentinel], laidTests := true, laidLooks := .later }
def FnTellBeginQuorumEpochResponseCardSaid : Prop := Claim7.holds Tryz.pinned (.plain (OpenSpec.ofChange fnTellBeginQuorumEpochResponseSpec)) fnTellBeginQuorumEpochResponseCard

/-- THE TIED CARD OF 'laws.FnTellEndQuorumEpochResponse'. -/
def fnTellEndQuorumEpochResponseCard : Claim7 := { stood := { row := fnTellEndQuorumEpochResponseRow, standIns := [], harness := (true, "ececd73a0e2e05fcba0607d475bbb4ad2391970206a51bee5bc2639215cbf3a3"), looks := false }, kinds := [], alts := [], laidByText := true, laidKinds := [.sentinel], laidTests := true, laidLooks := .later }
def FnTellEndQuorumEpochResponseCardSaid : Prop := Claim7.holds Tryz.pinned (.plain (OpenSpec.ofChange fnTellEndQuorumEpochResponseSpec)) fnTellEndQuorumEpochResponseCard

/-- THE TIED CARD OF 'laws.FnTellFetchSnapshotRequest'. -/
def fnTellFetchSnapshotRequestCard : Claim7 := { stood := { row := fnTellFetchSnapshotRequestRow, standIns := [], harness := (true, "ececd73a0e2e05fcba0607d475bbb4ad2391970206a51bee5bc2639215cbf3a3"), looks := false }, kinds := [], alts := [], laidByText := true, laidKinds := [.sentinel], laidTests := true, laidLooks := .later }
def FnTellFetchSnapshotRequestCardSaid : Prop := Claim7.holds Tryz.pinned (.plain (OpenSpec.ofChange fnTellFetchSnapshotRequestSpec)) fnTellFetchSnapshotRequestCard

/-- THE TIED CARD OF 'laws.FnTellCreateTopicsResponse'. -/
def fnTellCreateTopicsResponseCard : Claim7 := { stood := { row := fnTellCreateTopicsResponseRow, standIns := [], harness := (true, "ececd73a0e2e05fcba0607d475bbb4ad2391970206a51bee5bc2639215cbf3a3"), looks := false }, kinds := [], alts := [], laidByText := true, laidKinds := [.sentinel], laidTests := true, laidLooks := .later }
def FnTellCreateTopicsResponseCardSaid : Prop := Claim7.holds Tryz.pinned (.plain (OpenSpec.ofChange fnTellCreateTopicsResponseSpec)) fnTellCreateTopicsResponseCard

/-- THE TIED CARD OF 'laws.FnTellShareFetchResponse'. -/
def fnTellShareFetchResponseCard : Claim7 := { stood := { row := fnTellShareFetchResponseRow, standIns := [], harness := (true, "ececd73a0e2e05fcba0607d475bbb4ad2391970206a51bee5bc2639215cbf3a3"), looks := false }, kinds := [], alts := [], laidByText := true, laidKinds := [.sentinel], laidTests := true, laidLooks := .later }
def FnTellShareFetchResponseCardSaid : Prop := Claim7.holds Tryz.pinned (.plain (OpenSpec.ofChange fnTellShareFetchResponseSpec)) fnTellShareFetchResponseCard

/-- THE SECOND FORM's CARD OF 'laws.FnTellOffsetCommitRequest'. -/
def fnTellOffsetCommitRequestUptoCard : Claim7 := { stood := { row := fnTellOffsetCommitRequestUptoRow, standIns := [], harness := (true, "ececd73a0e2e05fcba0607d475bbb4ad2391970206a51bee5bc2639215cbf3a3"), looks := false }, kinds := [], alts := [], laidByText := true, laidKinds := [.sentinel], laidTests := true, laidLooks := .later }
def FnTellOffsetCommitRequestUptoCardSaid : Prop := Claim7.holds Tryz.pinned (.plain (OpenSpec.upto fnTellOffsetCommitRequestSpec)) fnTellOffsetCommitRequestUptoCard

/-- THE SECOND FORM's CARD OF 'laws.FnTellTxnOffsetCommitRequest'. -/
def fnTellTxnOffsetCommitRequestUptoCard : Claim7 := { stood := { row := fnTellTxnOffsetCommitRequestUptoRow, standIns := [], harness := (true, "ececd73a0e2e05fcba0607d475bbb4ad2391970206a51bee5bc2639215cbf3a3"), looks := false }, kinds := [], alts := [], laidByText := true, laidKinds := [.sentinel], laidTests := true, laidLooks := .later }
def FnTellTxnOffsetCommitRequestUptoCardSaid : Prop := Claim7.holds Tryz.pinned (.plain (OpenSpec.upto fnTellTxnOffsetCommitRequestSpec)) fnTellTxnOffsetCommitRequestUptoCard

/-- THE SECOND FORM's CARD OF 'laws.FnTellDeleteTopicsResponse'. -/
def fnTellDeleteTopicsResponseUptoCard : Claim7 := { stood := { row := fnTellDeleteTopicsResponseUptoRow, standIns := [], harness := (true, "ececd73a0e2e05fcba0607d475bbb4ad2391970206a51bee5bc2639215cbf3a3"), looks := false }, kinds := [], alts := [], laidByText := true, laidKinds := [.sentinel], laidTests := true, laidLooks := .later }
def FnTellDeleteTopicsResponseUptoCardSaid : Prop := Claim7.holds Tryz.pinned (.plain (OpenSpec.upto fnTellDeleteTopicsResponseSpec)) fnTellDeleteTopicsResponseUptoCard

/-- THE SECOND FORM's CARD OF 'laws.FnTellBeginQuorumEpochResponse'. -/
def fnTellBeginQuorumEpochResponseUptoCard : Claim7 := { stood := { row := fnTellBeginQuorumEpochResponseUptoRow, standIns := [], harness := (true, "ececd73a0e2e05fcba0607d475bbb4ad2391970206a51bee5bc2639215cbf3a3"), looks := false }, kinds := [], alts := [], laidByText := true, laidKinds := [.sentinel], laidTests := true, laidLooks := .later }
def FnTellBeginQuorumEpochResponseUptoCardSaid : Prop := Claim7.holds Tryz.pinned (.plain (OpenSpec.upto fnTellBeginQuorumEpochResponseSpec)) fnTellBeginQuorumEpochResponseUptoCard

/-- THE SECOND FORM's CARD OF 'laws.FnTellEndQuorumEpochResponse'. -/
def fnTellEndQuorumEpochResponseUptoCard : Claim7 := { stood := { row := fnTellEndQuorumEpochResponseUptoRow, standIns := [], harness := (true, "ececd73a0e2e05fcba0607d475bbb4ad2391970206a51bee5bc2639215cbf3a3"), looks := false }, kinds := [], alts := [], laidByText := true, laidKinds := [.sentinel], laidTests := true, laidLooks := .later }
def FnTellEndQuorumEpochResponseUptoCardSaid : Prop := Claim7.holds Tryz.pinned (.plain (OpenSpec.upto fnTellEndQuorumEpochResponseSpec)) fnTellEndQuorumEpochResponseUptoCard

/-- THE SECOND FORM's CARD OF 'laws.FnTellFetchSnapshotRequest'. -/
def fnTellFetchSnapshotRequestUptoCard : Claim7 := { stood := { row := fnTellFetchSnapshotRequestUptoRow, standIns := [], harness := (true, "ececd73a0e2e05fcba0607d475bbb4ad2391970206a51bee5bc2639215cbf3a3"), looks := false }, kinds := [], alts := [], laidByText := true, laidKinds := [.sentinel], laidTests := true, laidLooks := .later }
def FnTellFetchSnapshotRequestUptoCardSaid : Prop := Claim7.holds Tryz.pinned (.plain (OpenSpec.upto fnTellFetchSnapshotRequestSpec)) fnTellFetchSnapshotRequestUptoCard

/-- THE SECOND FORM's CARD OF 'laws.FnTellCreateTopicsResponse'. -/
def fnTellCreateTopicsResponseUptoCard : Claim7 := { stood := { row := fnTellCreateTopicsResponseUptoRow, standIns := [], harness := (true, "ececd73a0e2e05fcba0607d475bbb4ad2391970206a51bee5bc2639215cbf3a3"), looks := false }, kinds := [], alts := [], laidByText := true, laidKinds := [.sentinel], laidTests := true, laidLooks := .later }
def FnTellCreateTopicsResponseUptoCardSaid : Prop := Claim7.holds Tryz.pinned (.plain (OpenSpec.upto fnTellCreateTopicsResponseSpec)) fnTellCreateTopicsResponseUptoCard

/-- THE SECOND FORM's CARD OF 'laws.FnTellShareFetchResponse'. -/
def fnTellShareFetchResponseUptoCard : Claim7 := { stood := { row := fnTellShareFetchResponseUptoRow, standIns := [], harness := (true, "ececd73a0e2e05fcba0607d475bbb4ad2391970206a51bee5bc2639215cbf3a3"), looks := false }, kinds := [], alts := [], laidByText := true, laidKinds := [.sentinel], laidTests := true, laidLooks := .later }
def FnTellShareFetchResponseUptoCardSaid : Prop := Claim7.holds Tryz.pinned (.plain (OpenSpec.upto fnTellShareFetchResponseSpec)) fnTellShareFetchResponseUptoCard
end Rows
end Go.Proofs.YtoopklfabccmnaaGreatDoor
