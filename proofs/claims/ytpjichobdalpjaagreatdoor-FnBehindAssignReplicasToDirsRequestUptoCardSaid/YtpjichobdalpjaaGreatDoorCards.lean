/-
  DERIVED. GIVEN WITH THE SEED: THE CARDS: each row of YtpjichobdalpjaaGreatDoorRows.lean that lists a variable, with what it lists TIED to the program's text (the seventh form; the later family's looks); each row that meets fmt, with fmt's text TOLD by the authors' own Lean function (tested against real Go, not proved from fmt's source: count such statements apart). THE CARD IS WHAT COUNTS. Prove the row's statement (the work); the ties are given (YtpjichobdalpjaaGreatDoorTie.lean); close each card by the builder's one call (the guide's Derived/Test/ToyasCard.lean, 'card_holds'). Laid BY PROGRAM, IN A SANDBOX (cutbox-door.mjs). By AI agents, Wed Nov 11 2026. No macro, syntax, notation, axiom, sorry.
-/
import Derived.Test.YtpjichobdalpjaaGreatDoorRows
import GoSem.ClaimSeven
namespace Go.Proofs.YtpjichobdalpjaaGreatDoor
namespace Rows

/-- THE TIED CARD OF 'laws.FnTellShareFetchResponse'. -/
def fnTellShareFetchResponseCard : Claim7 := { stood := { row := fnTellShareFetchResponseRow, standIns := [], harness := (true, "6740ab3b1e5b2e67369ad700c047a4ff291638c32fff40c675ee9e875efa9bb6"), looks := false }, kinds := [], alts := [], laidByText := true, laidKinds := [.sentinel], laidTests := true, laidLooks := .later }
def FnTellShareFetchResponseCardSaid : Prop := Claim7.holds Tryz.pinned (.plain (OpenSpec.ofChange fnTellShareFetchResponseSpec)) fnTellShareFetchResponseCard

/-- THE TIED CARD OF 'laws.FnTellDescribeQuorumResponse'. -/
def fnTellDescribeQuorumResponseCard : Claim7 := { stood := { row := fnTellDescribeQuorumResponseRow, standIns := [], harness := (true, "6740ab3b1e5b2e67369ad700c047a4ff291638c32fff40c675ee9e875efa9bb6"), looks := false }, kinds := [], alts := [], laidByText := true, laidKinds := [.sentinel], laidTests := true, laidLooks := .later }
def FnTellDescribeQuorumResponseCardSaid : Prop := Claim7.holds Tryz.pinned (.plain (OpenSpec.ofChange fnTellDescribeQuorumResponseSpec)) fnTellDescribeQuorumResponseCard

/-- THE TIED CARD OF 'laws.FnBehindConsumerGroupDescribeRequest'. -/
def fnBehindConsumerGroupDescribeRequestCard : Claim7 := { stood := { row := fnBehindConsumerGroupDescribeRequestRow, standIns := [], harness := (true, "6740ab3b1e5b2e67369ad700c047a4ff291638c32fff40c675ee9e875efa9bb6"), looks := false }, kinds := [], alts := [], laidByText := true, laidKinds := [.sentinel], laidTests := true, laidLooks := .later }
def FnBehindConsumerGroupDescribeRequestCardSaid : Prop := Claim7.holds Tryz.pinned (.plain (OpenSpec.ofChange fnBehindConsumerGroupDescribeRequestSpec)) fnBehindConsumerGroupDescribeRequestCard

/-- THE TIED CARD OF 'laws.FnBehindListPartitionReassignmentsRequest'. -/
def fnBehindListPartitionReassignmentsRequestCard : Claim7 := { stood := { row := fnBehindListPartitionReassignmentsRequestRow, standIns := [], harness := (true, "6740ab3b1e5b2e67369ad700c047a4ff291638c32fff40c675ee9e875efa9bb6"), looks := false }, kinds := [], alts := [], laidByText := true, laidKinds := [.sentinel], laidTests := true, laidLooks := .later }
def FnBehindListPartitionReassignmentsRequestCardSaid : Prop := Claim7.holds Tryz.pinned (.plain (OpenSpec.ofChange fnBehindListPartitionReassignmentsRequestSpec)) fnBehindListPartitionReassignmentsRequestCard

/-- THE TIED CARD OF 'laws.FnBehindAssignReplicasToDirsRequest'. -/
def fnBehindAssignReplicasToDirsRequestCard : Claim7 := { stood := { row := fnBehindAssignReplicasToDirsRequestRow, standIns := [], harness := (true, "6740ab3b1e5b2e67369ad700c047a4ff291638c32fff40c675ee9e875efa9bb6"), looks := false }, kinds := [], alts := [], laidByText := true, laidKinds := [.sentinel], laidTests := true, laidLooks := .later }
def FnBehindAssignReplicasToDirsRequestCardSaid : Prop := Claim7.holds Tryz.pinned (.plain (OpenSpec.ofChange fnBehindAssignReplicasToDirsRequestSpec)) fnBehindAssignReplicasToDirsRequestCard

/-- THE TIED CARD OF 'laws.FnBehindListGroupsResponse'. -/
def fnBehindListGroupsResponseCard : Claim7 := { stood := { row := fnBehindListGroupsResponseRow, standIns := [], harness := (true, "6740ab3b1e5b2e67369ad700c047a4ff291638c32fff40c675ee9e875efa9bb6"), looks := false }, kinds := [], alts := [], laidByText := true, laidKinds := [.sentinel], laidTests := true, laidLooks := .later }
def FnBehindListGroupsResponseCardSaid : Prop := Claim7.holds Tryz.pinned (.plain (OpenSpec.ofChange fnBehindListGroupsResponseSpec)) fnBehindListGroupsResponseCard

/-- THE TIED CARD OF 'laws.FnBehindCreatePartitionsRequest'. -/
def fnBehindCreatePartitionsRequestCard : Claim7 := { stood := { row := fnBehindCreatePartitionsRequestRow, standIns := [], harness := (true, "6740ab3b1e5b2e67369ad700c047a4ff291638c32fff40c675ee9e875efa9bb6"), looks := false }, kinds := [], alts := [], laidByText := true, laidKinds := [.sentinel], laidTests := true, laidLooks := .later }
def FnBehindCreatePartitionsRequestCardSaid : Prop := Claim7.holds Tryz.pinned (.plain (OpenSpec.ofChange fnBehindCreatePartitionsRequestSpec)) fnBehindCreatePartitionsRequestCard

/-- THE TIED CARD OF 'laws.FnBehindAlterPartitionResponse'. -/
def fnBehindAlterPartitionResponseCard : Claim7 := { stood := { row := fnBehindAlterPartitionResponseRow, standIns := [], harness := (true, "6740ab3b1e5b2e67369ad700c047a4ff291638c32fff40c675ee9e875efa9bb6"), looks := false }, kinds := [], alts := [], laidByText := true, laidKinds := [.sentinel], laidTests := true, laidLooks := .later }
def FnBehindAlterPartitionResponseCardSaid : Prop := Claim7.holds Tryz.pinned (.plain (OpenSpec.ofChange fnBehindAlterPartitionResponseSpec)) fnBehindAlterPartitionResponseCard

/-- THE SECOND FORM's CARD OF 'laws.FnTellShareFetchResponse'. -/
def fnTellShareFetchResponseUptoCard : Claim7 := { stood := { row := fnTellShareFetchResponseUptoRow, standIns := [], harness := (true, "6740ab3b1e5b2e67369ad700c047a4ff291638c32fff40c675ee9e875efa9bb6"), looks := false }, kinds := [], alts := [], laidByText := true, laidKinds := [.sentinel], laidTests := true, laidLooks := .later }
def FnTellShareFetchResponseUptoCardSaid : Prop := Claim7.holds Tryz.pinned (.plain (OpenSpec.upto fnTellShareFetchResponseSpec)) fnTellShareFetchResponseUptoCard

/-- THE SECOND FORM's CARD OF 'laws.FnTellDescribeQuorumResponse'. -/
def fnTellDescribeQuorumResponseUptoCard : Claim7 := { stood := { row := fnTellDescribeQuorumResponseUptoRow, standIns := [], harness := (true, "6740ab3b1e5b2e67369ad700c047a4ff291638c32fff40c675ee9e875efa9bb6"), looks := false }, kinds := [], alts := [], laidByText := true, laidKinds := [.sentinel], laidTests := true, laidLooks := .later }
def FnTellDescribeQuorumResponseUptoCardSaid : Prop := Claim7.holds Tryz.pinned (.plain (OpenSpec.upto fnTellDescribeQuorumResponseSpec)) fnTellDescribeQuorumResponseUptoCard

/-- THE SECOND FORM's CARD OF 'laws.FnBehindConsumerGroupDescribeRequest'. -/
def fnBehindConsumerGroupDescribeRequestUptoCard : Claim7 := { stood := { row := fnBehindConsumerGroupDescribeRequestUptoRow, standIns := [], harness := (true, "6740ab3b1e5b2e67369ad700c047a4ff291638c32fff40c675ee9e875efa9bb6"), looks := false }, kinds := [], alts := [], laidByText := true, laidKinds := [.sentinel], laidTests := true, laidLooks := .later }
def FnBehindConsumerGroupDescribeRequestUptoCardSaid : Prop := Claim7.holds Tryz.pinned (.plain (OpenSpec.upto fnBehindConsumerGroupDescribeRequestSpec)) fnBehindConsumerGroupDescribeRequestUptoCard

/-- THE SECOND FORM's CARD OF 'laws.FnBehindListPartitionReassignmentsRequest'. -/
def fnBehindListPartitionReassignmentsRequestUptoCard : Claim7 := { stood := { row := fnBehindListPartitionReassignmentsRequestUptoRow, standIns := [], harness := (true, "6740ab3b1e5b2e67369ad700c047a4ff291638c32fff40c675ee9e875efa9bb6"), looks := false }, kinds := [], alts := [], laidByText := true, laidKinds := [.sentinel], laidTests := true, laidLooks := .later }
def FnBehindListPartitionReassignmentsRequestUptoCardSaid : Prop := Claim7.holds Tryz.pinned (.plain (OpenSpec.upto fnBehindListPartitionReassignmentsRequestSpec)) fnBehindListPartitionReassignmentsRequestUptoCard

/-- THE SECOND FORM's CARD OF 'laws.FnBehindAssignReplicasToDirsRequest'. -/
def fnBehindAssignReplicasToDirsRequestUptoCard : Claim7 := { stood := { row := fnBehindAssignReplicasToDirsRequestUptoRow, standIns := [], harness := (true, "6740ab3b1e5b2e67369ad700c047a4ff291638c32fff40c675ee9e875efa9bb6"), looks := false }, kinds := [], alts := [], laidByText := true, laidKinds := [.sentinel], laidTests := true, laidLooks := .later }
def FnBehindAssignReplicasToDirsRequestUptoCardSaid : Prop := Claim7.holds Tryz.pinned (.plain (OpenSpec.upto fnBehindAssignReplicasToDirsRequestSpec)) fnBehindAssignReplicasToDirsRequestUptoCard

/-- THE SECOND FORM's CARD OF 'laws.FnBehindListGroupsResponse'. -/
def fnBehindListGroupsResponseUptoCard : Claim7 := { stood := { row := fnBehindListGroupsResponseUptoRow, standIns := [], harness := (true, "6740ab3b1e5b2e67369ad700c047a4ff291638c32fff40c675ee9e875efa9bb6"), looks := false }, kinds := [], alts := [], laidByText := true, laidKinds := [.sentinel], laidTests := true, laidLooks := .later }
def FnBehindListGroupsResponseUptoCardSaid : Prop := Claim7.holds Tryz.pinned (.plain (OpenSpec.upto fnBehindListGroupsResponseSpec)) fnBehindListGroupsResponseUptoCard

/-- THE SECOND FORM's CARD OF 'laws.FnBehindCreatePartitionsRequest'. -/
def fnBehindCreatePartitionsRequestUptoCard : Claim7 := { stood := { row := fnBehindCreatePartitionsRequestUptoRow, standIns := [], harness := (true, "6740ab3b1e5b2e67369ad700c047a4ff291638c32fff40c675ee9e875efa9bb6"), looks := false }, kinds := [], alts := [], laidByText := true, laidKinds := [.sentinel], laidTests := true, laidLooks := .later }
def FnBehindCreatePartitionsRequestUptoCardSaid : Prop := Claim7.holds Tryz.pinned (.plain (OpenSpec.upto fnBehindCreatePartitionsRequestSpec)) fnBehindCreatePartitionsRequestUptoCard

/-- THE SECOND FORM's CARD OF 'laws.FnBehindAlterPartitionResponse'. -/
def fnBehindAlterPartitionResponseUptoCard : Claim7 := { stood := { row := fnBehindAlterPartitionResponseUptoRow, standIns := [], harness := (true, "6740ab3b1e5b2e67369ad700c047a4ff291638c32fff40c675ee9e875efa9bb6"), looks := false }, kinds := [], alts := [], laidByText := true, laidKinds := [.sentinel], laidTests := true, laidLooks := .later }
def FnBehindAlterPartitionResponseUptoCardSaid : Prop := Claim7.holds Tryz.pinned (.plain (OpenSpec.upto fnBehindAlterPartitionResponseSpec)) fnBehindAlterPartitionResponseUptoCard
end Rows
end Go.Proofs.YtpjichobdalpjaaGreatDoor
