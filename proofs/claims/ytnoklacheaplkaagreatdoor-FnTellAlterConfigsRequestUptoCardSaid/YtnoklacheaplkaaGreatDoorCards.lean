/-
  DERIVED. GIVEN WITH THE SEED: THE CARDS: each row of YtnoklacheaplkaaGreatDoorRows.lean that lists a variable, with what it lists TIED to the program's text (the seventh form; the later family's looks); each row that meets fmt, with fmt's text TOLD by the authors' own Lean function (tested against real Go, not proved from fmt's source: count such statements apart). THE CARD IS WHAT COUNTS. Prove the row's statement (the work); the ties are given (YtnoklacheaplkaaGreatDoorTie.lean); close each card by the builder's one call (the guide's Derived/Test/ToyasCard.lean, 'card_holds'). Laid BY PROGRAM, IN A SANDBOX (cutbox-door.mjs). By AI agents, Wed Nov 11 2026. No macro, syntax, notation, axiom, sorry.
-/
import Derived.Test.YtnoklacheaplkaaGreatDoorRows
import GoSem.ClaimSeven
namespace Go.Proofs.YtnoklacheaplkaaGreatDoor
namespace Rows

/-- THE TIED CARD OF 'laws.FnTellIncrementalAlterConfigsResponse'. -/
def fnTellIncrementalAlterConfigsResponseCard : Claim7 := { stood := { row := fnTellIncrementalAlterConfigsResponseRow, standIns := [], harness := (true, "3271606e3dbba7bc31cc4720a70adcc83f44a3430ce90d3a63a573ddd3ced8f2"), looks := false }, kinds := [], alts := [], laidByText := true, laidKinds := [.sentinel], laidTests := true, laidLooks := .later }
def FnTellIncrementalAlterConfigsResponseCardSaid : Prop := Claim7.holds Tryz.pinned (.plain (OpenSpec.ofChange fnTellIncrementalAlterConfigsResponseSpec)) fnTellIncrementalAlterConfigsResponseCard

/-- THE TIED CARD OF 'laws.FnTellListTransactionsResponse'. -/
def fnTellListTransactionsResponseCard : Claim7 := { stood := { row := fnTellListTransactionsResponseRow, standIns := [], harness := (true, "3271606e3dbba7bc31cc4720a70adcc83f44a3430ce90d3a63a573ddd3ced8f2"), looks := false }, kinds := [], alts := [], laidByText := true, laidKinds := [.sentinel], laidTests := true, laidLooks := .later }
def FnTellListTransactionsResponseCardSaid : Prop := Claim7.holds Tryz.pinned (.plain (OpenSpec.ofChange fnTellListTransactionsResponseSpec)) fnTellListTransactionsResponseCard

/-- THE TIED CARD OF 'laws.FnTellDeleteTopicsResponse'. -/
def fnTellDeleteTopicsResponseCard : Claim7 := { stood := { row := fnTellDeleteTopicsResponseRow, standIns := [], harness := (true, "3271606e3dbba7bc31cc4720a70adcc83f44a3430ce90d3a63a573ddd3ced8f2"), looks := false }, kinds := [], alts := [], laidByText := true, laidKinds := [.sentinel], laidTests := true, laidLooks := .later }
def FnTellDeleteTopicsResponseCardSaid : Prop := Claim7.holds Tryz.pinned (.plain (OpenSpec.ofChange fnTellDeleteTopicsResponseSpec)) fnTellDeleteTopicsResponseCard

/-- THE TIED CARD OF 'laws.FnTellDescribeClientQuotasRequest'. -/
def fnTellDescribeClientQuotasRequestCard : Claim7 := { stood := { row := fnTellDescribeClientQuotasRequestRow, standIns := [], harness := (true, "3271606e3dbba7bc31cc4720a70adcc83f44a3430ce90d3a63a573ddd3ced8f2"), looks := false }, kinds := [], alts := [], laidByText := true, laidKinds := [.sentinel], laidTests := true, laidLooks := .later }
def FnTellDescribeClientQuotasRequestCardSaid : Prop := Claim7.holds Tryz.pinned (.plain (OpenSpec.ofChange fnTellDescribeClientQuotasRequestSpec)) fnTellDescribeClientQuotasRequestCard

/-- THE TIED CARD OF 'laws.FnTellDescribeTransactionsResponse'. -/
def fnTellDescribeTransactionsResponseCard : Claim7 := { stood := { row := fnTellDescribeTransactionsResponseRow, standIns := [], harness := (true, "3271606e3dbba7bc31cc4720a70adcc83f44a3430ce90d3a63a573ddd3ced8f2"), looks := false }, kinds := [], alts := [], laidByText := true, laidKinds := [.sentinel], laidTests := true, laidLooks := .later }
def FnTellDescribeTransactionsResponseCardSaid : Prop := Claim7.holds Tryz.pinned (.plain (OpenSpec.ofChange fnTellDescribeTransactionsResponseSpec)) fnTellDescribeTransactionsResponseCard

/-- THE TIED CARD OF 'laws.FnTellBeginQuorumEpochResponse'. -/
def fnTellBeginQuorumEpochResponseCard : Claim7 := { stood := { row := fnTellBeginQuorumEpochResponseRow, standIns := [], harness := (true, "3271606e3dbba7bc31cc4720a70adcc83f44a3430ce90d3a63a573ddd3ced8f2"), looks := false }, kinds := [], alts := [], laidByText := true, laidKinds := [.sentinel], laidTests := true, laidLooks := .later }
def FnTellBeginQuorumEpochResponseCardSaid : Prop := Claim7.holds Tryz.pinned (.plain (OpenSpec.ofChange fnTellBeginQuorumEpochResponseSpec)) fnTellBeginQuorumEpochResponseCard

/-- THE TIED CARD OF 'laws.FnTellEndQuorumEpochResponse'. -/
def fnTellEndQuorumEpochResponseCard : Claim7 := { stood := { row := fnTellEndQuorumEpochResponseRow, standIns := [], harness := (true, "3271606e3dbba7bc31cc4720a70adcc83f44a3430ce90d3a63a573ddd3ced8f2"), looks := false }, kinds := [], alts := [], laidByText := true, laidKinds := [.sentinel], laidTests := true, laidLooks := .later }
def FnTellEndQuorumEpochResponseCardSaid : Prop := Claim7.holds Tryz.pinned (.plain (OpenSpec.ofChange fnTellEndQuorumEpochResponseSpec)) fnTellEndQuorumEpochResponseCard

/-- THE TIED CARD OF 'laws.FnTellAlterConfigsRequest'. -/
def fnTellAlterConfigsRequestCard : Claim7 := { stood := { row := fnTellAlterConfigsRequestRow, standIns := [], harness := (true, "3271606e3dbba7bc31cc4720a70adcc83f44a3430ce90d3a63a573ddd3ced8f2"), looks := false }, kinds := [], alts := [], laidByText := true, laidKinds := [.sentinel], laidTests := true, laidLooks := .later }
def FnTellAlterConfigsRequestCardSaid : Prop := Claim7.holds Tryz.pinned (.plain (OpenSpec.ofChange fnTellAlterConfigsRequestSpec)) fnTellAlterConfigsRequestCard

/-- THE TIED CARD OF 'laws.FnTellFetchSnapshotRequest'. -/
def fnTellFetchSnapshotRequestCard : Claim7 := { stood := { row := fnTellFetchSnapshotRequestRow, standIns := [], harness := (true, "3271606e3dbba7bc31cc4720a70adcc83f44a3430ce90d3a63a573ddd3ced8f2"), looks := false }, kinds := [], alts := [], laidByText := true, laidKinds := [.sentinel], laidTests := true, laidLooks := .later }
def FnTellFetchSnapshotRequestCardSaid : Prop := Claim7.holds Tryz.pinned (.plain (OpenSpec.ofChange fnTellFetchSnapshotRequestSpec)) fnTellFetchSnapshotRequestCard

/-- THE TIED CARD OF 'laws.FnTellOffsetCommitRequest'. -/
def fnTellOffsetCommitRequestCard : Claim7 := { stood := { row := fnTellOffsetCommitRequestRow, standIns := [], harness := (true, "3271606e3dbba7bc31cc4720a70adcc83f44a3430ce90d3a63a573ddd3ced8f2"), looks := false }, kinds := [], alts := [], laidByText := true, laidKinds := [.sentinel], laidTests := true, laidLooks := .later }
def FnTellOffsetCommitRequestCardSaid : Prop := Claim7.holds Tryz.pinned (.plain (OpenSpec.ofChange fnTellOffsetCommitRequestSpec)) fnTellOffsetCommitRequestCard

/-- THE TIED CARD OF 'laws.FnTellCreateTopicsResponse'. -/
def fnTellCreateTopicsResponseCard : Claim7 := { stood := { row := fnTellCreateTopicsResponseRow, standIns := [], harness := (true, "3271606e3dbba7bc31cc4720a70adcc83f44a3430ce90d3a63a573ddd3ced8f2"), looks := false }, kinds := [], alts := [], laidByText := true, laidKinds := [.sentinel], laidTests := true, laidLooks := .later }
def FnTellCreateTopicsResponseCardSaid : Prop := Claim7.holds Tryz.pinned (.plain (OpenSpec.ofChange fnTellCreateTopicsResponseSpec)) fnTellCreateTopicsResponseCard

/-- THE TIED CARD OF 'laws.FnTellTxnOffsetCommitRequest'. -/
def fnTellTxnOffsetCommitRequestCard : Claim7 := { stood := { row := fnTellTxnOffsetCommitRequestRow, standIns := [], harness := (true, "3271606e3dbba7bc31cc4720a70adcc83f44a3430ce90d3a63a573ddd3ced8f2"), looks := false }, kinds := [], alts := [], laidByText := true, laidKinds := [.sentinel], laidTests := true, laidLooks := .later }
def FnTellTxnOffsetCommitRequestCardSaid : Prop := Claim7.holds Tryz.pinned (.plain (OpenSpec.ofChange fnTellTxnOffsetCommitRequestSpec)) fnTellTxnOffsetCommitRequestCard

/-- THE SECOND FORM's CARD OF 'laws.FnTellIncrementalAlterConfigsResponse'. -/
def fnTellIncrementalAlterConfigsResponseUptoCard : Claim7 := { stood := { row := fnTellIncrementalAlterConfigsResponseUptoRow, standIns := [], harness := (true, "3271606e3dbba7bc31cc4720a70adcc83f44a3430ce90d3a63a573ddd3ced8f2"), looks := false }, kinds := [], alts := [], laidByText := true, laidKinds := [.sentinel], laidTests := true, laidLooks := .later }
def FnTellIncrementalAlterConfigsResponseUptoCardSaid : Prop := Claim7.holds Tryz.pinned (.plain (OpenSpec.upto fnTellIncrementalAlterConfigsResponseSpec)) fnTellIncrementalAlterConfigsResponseUptoCard

/-- THE SECOND FORM's CARD OF 'laws.FnTellListTransactionsResponse'. -/
def fnTellListTransactionsResponseUptoCard : Claim7 := { stood := { row := fnTellListTransactionsResponseUptoRow, standIns := [], harness := (true, "3271606e3dbba7bc31cc4720a70adcc83f44a3430ce90d3a63a573ddd3ced8f2"), looks := false }, kinds := [], alts := [], laidByText := true, laidKinds := [.sentinel], laidTests := true, laidLooks := .later }
def FnTellListTransactionsResponseUptoCardSaid : Prop := Claim7.holds Tryz.pinned (.plain (OpenSpec.upto fnTellListTransactionsResponseSpec)) fnTellListTransactionsResponseUptoCard

/-- THE SECOND FORM's CARD OF 'laws.FnTellDeleteTopicsResponse'. -/
def fnTellDeleteTopicsResponseUptoCard : Claim7 := { stood := { row := fnTellDeleteTopicsResponseUptoRow, standIns := [], harness := (true, "3271606e3dbba7bc31cc4720a70adcc83f44a3430ce90d3a63a573ddd3ced8f2"), looks := false }, kinds := [], alts := [], laidByText := true, laidKinds := [.sentinel], laidTests := true, laidLooks := .later }
def FnTellDeleteTopicsResponseUptoCardSaid : Prop := Claim7.holds Tryz.pinned (.plain (OpenSpec.upto fnTellDeleteTopicsResponseSpec)) fnTellDeleteTopicsResponseUptoCard

/-- THE SECOND FORM's CARD OF 'laws.FnTellDescribeClientQuotasRequest'. -/
def fnTellDescribeClientQuotasRequestUptoCard : Claim7 := { stood := { row := fnTellDescribeClientQuotasRequestUptoRow, standIns := [], harness := (true, "3271606e3dbba7bc31cc4720a70adcc83f44a3430ce90d3a63a573ddd3ced8f2"), looks := false }, kinds := [], alts := [], laidByText := true, laidKinds := [.sentinel], laidTests := true, laidLooks := .later }
def FnTellDescribeClientQuotasRequestUptoCardSaid : Prop := Claim7.holds Tryz.pinned (.plain (OpenSpec.upto fnTellDescribeClientQuotasRequestSpec)) fnTellDescribeClientQuotasRequestUptoCard

/-- THE SECOND FORM's CARD OF 'laws.FnTellDescribeTransactionsResponse'. -/
def fnTellDescribeTransactionsResponseUptoCard : Claim7 := { stood := { row := fnTellDescribeTransactionsResponseUptoRow, standIns := [], harness := (true, "3271606e3dbba7bc31cc4720a70adcc83f44a3430ce90d3a63a573ddd3ced8f2"), looks := false }, kinds := [], alts := [], laidByText := true, laidKinds := [.sentinel], laidTests := true, laidLooks := .later }
def FnTellDescribeTransactionsResponseUptoCardSaid : Prop := Claim7.holds Tryz.pinned (.plain (OpenSpec.upto fnTellDescribeTransactionsResponseSpec)) fnTellDescribeTransactionsResponseUptoCard

/-- THE SECOND FORM's CARD OF 'laws.FnTellBeginQuorumEpochResponse'. -/
def fnTellBeginQuorumEpochResponseUptoCard : Claim7 := { stood := { row := fnTellBeginQuorumEpochResponseUptoRow, standIns := [], harness := (true, "3271606e3dbba7bc31cc4720a70adcc83f44a3430ce90d3a63a573ddd3ced8f2"), looks := false }, kinds := [], alts := [], laidByText := true, laidKinds := [.sentinel], laidTests := true, laidLooks := .later }
def FnTellBeginQuorumEpochResponseUptoCardSaid : Prop := Claim7.holds Tryz.pinned (.plain (OpenSpec.upto fnTellBeginQuorumEpochResponseSpec)) fnTellBeginQuorumEpochResponseUptoCard

/-- THE SECOND FORM's CARD OF 'laws.FnTellEndQuorumEpochResponse'. -/
def fnTellEndQuorumEpochResponseUptoCard : Claim7 := { stood := { row := fnTellEndQuorumEpochResponseUptoRow, standIns := [], harness := (true, "3271606e3dbba7bc31cc4720a70adcc83f44a3430ce90d3a63a573ddd3ced8f2"), looks := false }, kinds := [], alts := [], laidByText := true, laidKinds := [.sentinel], laidTests := true, laidLooks := .later }
def FnTellEndQuorumEpochResponseUptoCardSaid : Prop := Claim7.holds Tryz.pinned (.plain (OpenSpec.upto fnTellEndQuorumEpochResponseSpec)) fnTellEndQuorumEpochResponseUptoCard

/-- THE SECOND FORM's CARD OF 'laws.FnTellAlterConfigsRequest'. -/
def fnTellAlterConfigsRequestUptoCard : Claim7 := { stood := { row := fnTellAlterConfigsRequestUptoRow, standIns := [], harness := (true, "3271606e3dbba7bc31cc4720a70adcc83f44a3430ce90d3a63a573ddd3ced8f2"), looks := false }, kinds := [], alts := [], laidByText := true, laidKinds := [.sentinel], laidTests := true, laidLooks := .later }
def FnTellAlterConfigsRequestUptoCardSaid : Prop := Claim7.holds Tryz.pinned (.plain (OpenSpec.upto fnTellAlterConfigsRequestSpec)) fnTellAlterConfigsRequestUptoCard

/-- THE SECOND FORM's CARD OF 'laws.FnTellFetchSnapshotRequest'. -/
def fnTellFetchSnapshotRequestUptoCard : Claim7 := { stood := { row := fnTellFetchSnapshotRequestUptoRow, standIns := [], harness := (true, "3271606e3dbba7bc31cc4720a70adcc83f44a3430ce90d3a63a573ddd3ced8f2"), looks := false }, kinds := [], alts := [], laidByText := true, laidKinds := [.sentinel], laidTests := true, laidLooks := .later }
def FnTellFetchSnapshotRequestUptoCardSaid : Prop := Claim7.holds Tryz.pinned (.plain (OpenSpec.upto fnTellFetchSnapshotRequestSpec)) fnTellFetchSnapshotRequestUptoCard

/-- THE SECOND FORM's CARD OF 'laws.FnTellOffsetCommitRequest'. -/
def fnTellOffsetCommitRequestUptoCard : Claim7 := { stood := { row := fnTellOffsetCommitRequestUptoRow, standIns := [], harness := (true, "3271606e3dbba7bc31cc4720a70adcc83f44a3430ce90d3a63a573ddd3ced8f2"), looks := false }, kinds := [], alts := [], laidByText := true, laidKinds := [.sentinel], laidTests := true, laidLooks := .later }
def FnTellOffsetCommitRequestUptoCardSaid : Prop := Claim7.holds Tryz.pinned (.plain (OpenSpec.upto fnTellOffsetCommitRequestSpec)) fnTellOffsetCommitRequestUptoCard

/-- THE SECOND FORM's CARD OF 'laws.FnTellCreateTopicsResponse'. -/
def fnTellCreateTopicsResponseUptoCard : Claim7 := { stood := { row := fnTellCreateTopicsResponseUptoRow, standIns := [], harness := (true, "3271606e3dbba7bc31cc4720a70adcc83f44a3430ce90d3a63a573ddd3ced8f2"), looks := false }, kinds := [], alts := [], laidByText := true, laidKinds := [.sentinel], laidTests := true, laidLooks := .later }
def FnTellCreateTopicsResponseUptoCardSaid : Prop := Claim7.holds Tryz.pinned (.plain (OpenSpec.upto fnTellCreateTopicsResponseSpec)) fnTellCreateTopicsResponseUptoCard

/-- THE SECOND FORM's CARD OF 'laws.FnTellTxnOffsetCommitRequest'. -/
def fnTellTxnOffsetCommitRequestUptoCard : Claim7 := { stood := { row := fnTellTxnOffsetCommitRequestUptoRow, standIns := [], harness := (true, "3271606e3dbba7bc31cc4720a70adcc83f44a3430ce90d3a63a573ddd3ced8f2"), looks := false }, kinds := [], alts := [], laidByText := true, laidKinds := [.sentinel], laidTests := true, laidLooks := .later }
def FnTellTxnOffsetCommitRequestUptoCardSaid : Prop := Claim7.holds Tryz.pinned (.plain (OpenSpec.upto fnTellTxnOffsetCommitRequestSpec)) fnTellTxnOffsetCommitRequestUptoCard
end Rows
end Go.Proofs.YtnoklacheaplkaaGreatDoor
