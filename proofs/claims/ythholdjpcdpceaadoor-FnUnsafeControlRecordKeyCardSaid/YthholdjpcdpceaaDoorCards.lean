/-
  DERIVED. GIVEN WITH THE SEED: THE CARDS: each row of YthholdjpcdpceaaDoorRows.lean that lists a variable, with what it lists TIED to the program's text (the seventh form; the later family's looks); each row that meets fmt, with fmt's text TOLD by the authors' own Lean function (tested against real Go, not proved from fmt's source: count such statements apart). THE CARD IS WHAT COUNTS. Prove the row's statement (the work); the ties are given (YthholdjpcdpceaaDoorTie.lean); close each card by the builder's one call (the guide's Derived/Test/ToyasCard.lean, 'card_holds'). Laid BY PROGRAM, IN A SANDBOX (cutbox-door.mjs). By AI agents, Wed Nov 11 2026. No macro, syntax, notation, axiom, sorry.
-/
import Derived.Test.YthholdjpcdpceaaDoorRows
import GoSem.ClaimSeven
namespace Go.Proofs.YthholdjpcdpceaaDoor
namespace Rows

/-- THE TIED CARD OF 'laws.FnUnsafeControlRecordKey'. -/
def fnUnsafeControlRecordKeyCard : Claim7 := { stood := { row := fnUnsafeControlRecordKeyRow, standIns := [], harness := (true, "edc7c07976ab63e82d2953dc2fadc578e8a18fea734cea098033c2ba95908246"), looks := false }, kinds := [], alts := [], laidByText := true, laidKinds := [.sentinel], laidTests := true, laidLooks := .later }
def FnUnsafeControlRecordKeyCardSaid : Prop := Claim7.holds Tryd.pinned (.plain (OpenSpec.ofChange fnUnsafeControlRecordKeySpec)) fnUnsafeControlRecordKeyCard

/-- THE TIED CARD OF 'laws.FnUnsafeDeleteGroupsRequest'. -/
def fnUnsafeDeleteGroupsRequestCard : Claim7 := { stood := { row := fnUnsafeDeleteGroupsRequestRow, standIns := [], harness := (true, "edc7c07976ab63e82d2953dc2fadc578e8a18fea734cea098033c2ba95908246"), looks := false }, kinds := [], alts := [], laidByText := true, laidKinds := [.sentinel], laidTests := true, laidLooks := .later }
def FnUnsafeDeleteGroupsRequestCardSaid : Prop := Claim7.holds Tryd.pinned (.plain (OpenSpec.ofChange fnUnsafeDeleteGroupsRequestSpec)) fnUnsafeDeleteGroupsRequestCard

/-- THE TIED CARD OF 'laws.FnUnsafeCreateACLsResponse'. -/
def fnUnsafeCreateACLsResponseCard : Claim7 := { stood := { row := fnUnsafeCreateACLsResponseRow, standIns := [], harness := (true, "edc7c07976ab63e82d2953dc2fadc578e8a18fea734cea098033c2ba95908246"), looks := false }, kinds := [], alts := [], laidByText := true, laidKinds := [.sentinel], laidTests := true, laidLooks := .later }
def FnUnsafeCreateACLsResponseCardSaid : Prop := Claim7.holds Tryd.pinned (.plain (OpenSpec.ofChange fnUnsafeCreateACLsResponseSpec)) fnUnsafeCreateACLsResponseCard

/-- THE TIED CARD OF 'laws.FnUnsafeElectLeadersRequest'. -/
def fnUnsafeElectLeadersRequestCard : Claim7 := { stood := { row := fnUnsafeElectLeadersRequestRow, standIns := [], harness := (true, "edc7c07976ab63e82d2953dc2fadc578e8a18fea734cea098033c2ba95908246"), looks := false }, kinds := [], alts := [], laidByText := true, laidKinds := [.sentinel], laidTests := true, laidLooks := .later }
def FnUnsafeElectLeadersRequestCardSaid : Prop := Claim7.holds Tryd.pinned (.plain (OpenSpec.ofChange fnUnsafeElectLeadersRequestSpec)) fnUnsafeElectLeadersRequestCard

/-- THE TIED CARD OF 'laws.FnUnsafeDeleteShareGroupStateRequest'. -/
def fnUnsafeDeleteShareGroupStateRequestCard : Claim7 := { stood := { row := fnUnsafeDeleteShareGroupStateRequestRow, standIns := [], harness := (true, "edc7c07976ab63e82d2953dc2fadc578e8a18fea734cea098033c2ba95908246"), looks := false }, kinds := [], alts := [], laidByText := true, laidKinds := [.sentinel], laidTests := true, laidLooks := .later }
def FnUnsafeDeleteShareGroupStateRequestCardSaid : Prop := Claim7.holds Tryd.pinned (.plain (OpenSpec.ofChange fnUnsafeDeleteShareGroupStateRequestSpec)) fnUnsafeDeleteShareGroupStateRequestCard

/-- THE TIED CARD OF 'laws.FnUnsafeDescribeTopicPartitionsRequest'. -/
def fnUnsafeDescribeTopicPartitionsRequestCard : Claim7 := { stood := { row := fnUnsafeDescribeTopicPartitionsRequestRow, standIns := [], harness := (true, "edc7c07976ab63e82d2953dc2fadc578e8a18fea734cea098033c2ba95908246"), looks := false }, kinds := [], alts := [], laidByText := true, laidKinds := [.sentinel], laidTests := true, laidLooks := .later }
def FnUnsafeDescribeTopicPartitionsRequestCardSaid : Prop := Claim7.holds Tryd.pinned (.plain (OpenSpec.ofChange fnUnsafeDescribeTopicPartitionsRequestSpec)) fnUnsafeDescribeTopicPartitionsRequestCard

/-- THE TIED CARD OF 'laws.FnUnsafeShareGroupHeartbeatRequest'. -/
def fnUnsafeShareGroupHeartbeatRequestCard : Claim7 := { stood := { row := fnUnsafeShareGroupHeartbeatRequestRow, standIns := [], harness := (true, "edc7c07976ab63e82d2953dc2fadc578e8a18fea734cea098033c2ba95908246"), looks := false }, kinds := [], alts := [], laidByText := true, laidKinds := [.sentinel], laidTests := true, laidLooks := .later }
def FnUnsafeShareGroupHeartbeatRequestCardSaid : Prop := Claim7.holds Tryd.pinned (.plain (OpenSpec.ofChange fnUnsafeShareGroupHeartbeatRequestSpec)) fnUnsafeShareGroupHeartbeatRequestCard

/-- THE SECOND FORM's CARD OF 'laws.FnUnsafeControlRecordKey'. -/
def fnUnsafeControlRecordKeyUptoCard : Claim7 := { stood := { row := fnUnsafeControlRecordKeyUptoRow, standIns := [], harness := (true, "edc7c07976ab63e82d2953dc2fadc578e8a18fea734cea098033c2ba95908246"), looks := false }, kinds := [], alts := [], laidByText := true, laidKinds := [.sentinel], laidTests := true, laidLooks := .later }
def FnUnsafeControlRecordKeyUptoCardSaid : Prop := Claim7.holds Tryd.pinned (.plain (OpenSpec.upto fnUnsafeControlRecordKeySpec)) fnUnsafeControlRecordKeyUptoCard

/-- THE SECOND FORM's CARD OF 'laws.FnUnsafeDeleteGroupsRequest'. -/
def fnUnsafeDeleteGroupsRequestUptoCard : Claim7 := { stood := { row := fnUnsafeDeleteGroupsRequestUptoRow, standIns := [], harness := (true, "edc7c07976ab63e82d2953dc2fadc578e8a18fea734cea098033c2ba95908246"), looks := false }, kinds := [], alts := [], laidByText := true, laidKinds := [.sentinel], laidTests := true, laidLooks := .later }
def FnUnsafeDeleteGroupsRequestUptoCardSaid : Prop := Claim7.holds Tryd.pinned (.plain (OpenSpec.upto fnUnsafeDeleteGroupsRequestSpec)) fnUnsafeDeleteGroupsRequestUptoCard

/-- THE SECOND FORM's CARD OF 'laws.FnUnsafeCreateACLsResponse'. -/
def fnUnsafeCreateACLsResponseUptoCard : Claim7 := { stood := { row := fnUnsafeCreateACLsResponseUptoRow, standIns := [], harness := (true, "edc7c07976ab63e82d2953dc2fadc578e8a18fea734cea098033c2ba95908246"), looks := false }, kinds := [], alts := [], laidByText := true, laidKinds := [.sentinel], laidTests := true, laidLooks := .later }
def FnUnsafeCreateACLsResponseUptoCardSaid : Prop := Claim7.holds Tryd.pinned (.plain (OpenSpec.upto fnUnsafeCreateACLsResponseSpec)) fnUnsafeCreateACLsResponseUptoCard

/-- THE SECOND FORM's CARD OF 'laws.FnUnsafeElectLeadersRequest'. -/
def fnUnsafeElectLeadersRequestUptoCard : Claim7 := { stood := { row := fnUnsafeElectLeadersRequestUptoRow, standIns := [], harness := (true, "edc7c07976ab63e82d2953dc2fadc578e8a18fea734cea098033c2ba95908246"), looks := false }, kinds := [], alts := [], laidByText := true, laidKinds := [.sentinel], laidTests := true, laidLooks := .later }
def FnUnsafeElectLeadersRequestUptoCardSaid : Prop := Claim7.holds Tryd.pinned (.plain (OpenSpec.upto fnUnsafeElectLeadersRequestSpec)) fnUnsafeElectLeadersRequestUptoCard

/-- THE SECOND FORM's CARD OF 'laws.FnUnsafeDeleteShareGroupStateRequest'. -/
def fnUnsafeDeleteShareGroupStateRequestUptoCard : Claim7 := { stood := { row := fnUnsafeDeleteShareGroupStateRequestUptoRow, standIns := [], harness := (true, "edc7c07976ab63e82d2953dc2fadc578e8a18fea734cea098033c2ba95908246"), looks := false }, kinds := [], alts := [], laidByText := true, laidKinds := [.sentinel], laidTests := true, laidLooks := .later }
def FnUnsafeDeleteShareGroupStateRequestUptoCardSaid : Prop := Claim7.holds Tryd.pinned (.plain (OpenSpec.upto fnUnsafeDeleteShareGroupStateRequestSpec)) fnUnsafeDeleteShareGroupStateRequestUptoCard

/-- THE SECOND FORM's CARD OF 'laws.FnUnsafeDescribeTopicPartitionsRequest'. -/
def fnUnsafeDescribeTopicPartitionsRequestUptoCard : Claim7 := { stood := { row := fnUnsafeDescribeTopicPartitionsRequestUptoRow, standIns := [], harness := (true, "edc7c07976ab63e82d2953dc2fadc578e8a18fea734cea098033c2ba95908246"), looks := false }, kinds := [], alts := [], laidByText := true, laidKinds := [.sentinel], laidTests := true, laidLooks := .later }
def FnUnsafeDescribeTopicPartitionsRequestUptoCardSaid : Prop := Claim7.holds Tryd.pinned (.plain (OpenSpec.upto fnUnsafeDescribeTopicPartitionsRequestSpec)) fnUnsafeDescribeTopicPartitionsRequestUptoCard

/-- THE SECOND FORM's CARD OF 'laws.FnUnsafeShareGroupHeartbeatRequest'. -/
def fnUnsafeShareGroupHeartbeatRequestUptoCard : Claim7 := { stood := { row := fnUnsafeShareGroupHeartbeatRequestUptoRow, standIns := [], harness := (true, "edc7c07976ab63e82d2953dc2fadc578e8a18fea734cea098033c2ba95908246"), looks := false }, kinds := [], alts := [], laidByText := true, laidKinds := [.sentinel], laidTests := true, laidLooks := .later }
def FnUnsafeShareGroupHeartbeatRequestUptoCardSaid : Prop := Claim7.holds Tryd.pinned (.plain (OpenSpec.upto fnUnsafeShareGroupHeartbeatRequestSpec)) fnUnsafeShareGroupHeartbeatRequestUptoCard
end Rows
end Go.Proofs.YthholdjpcdpceaaDoor
