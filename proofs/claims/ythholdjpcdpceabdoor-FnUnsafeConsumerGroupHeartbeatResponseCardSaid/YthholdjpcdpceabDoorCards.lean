/-
  DERIVED. GIVEN WITH THE SEED: THE CARDS: each row of YthholdjpcdpceabDoorRows.lean that lists a variable, with what it lists TIED to the program's text (the seventh form; the later family's looks); each row that meets fmt, with fmt's text TOLD by the authors' own Lean function (tested against real Go, not proved from fmt's source: count such statements apart). THE CARD IS WHAT COUNTS. Prove the row's statement (the work); the ties are given (YthholdjpcdpceabDoorTie.lean); close each card by the builder's one call (the guide's Derived/Test/ToyasCard.lean, 'card_holds'). Laid BY PROGRAM, IN A SANDBOX (cutbox-door.mjs). By AI agents, Wed Nov 11 2026. No macro, syntax, notation, axiom, sorry.
-/
import Derived.Test.YthholdjpcdpceabDoorRows
import GoSem.ClaimSeven
namespace Go.Proofs.YthholdjpcdpceabDoor
namespace Rows

/-- THE TIED CARD OF 'laws.FnUnsafeLeaderAndISRResponse'. -/
def fnUnsafeLeaderAndISRResponseCard : Claim7 := { stood := { row := fnUnsafeLeaderAndISRResponseRow, standIns := [], harness := (true, "86b73689e45970735fdb8a1464f4df89636ecce53a8a5ca491958521f6bd0198"), looks := false }, kinds := [], alts := [], laidByText := true, laidKinds := [.sentinel], laidTests := true, laidLooks := .later }
def FnUnsafeLeaderAndISRResponseCardSaid : Prop := Claim7.holds Tryd.pinned (.plain (OpenSpec.ofChange fnUnsafeLeaderAndISRResponseSpec)) fnUnsafeLeaderAndISRResponseCard

/-- THE TIED CARD OF 'laws.FnUnsafeAddRaftVoterRequest'. -/
def fnUnsafeAddRaftVoterRequestCard : Claim7 := { stood := { row := fnUnsafeAddRaftVoterRequestRow, standIns := [], harness := (true, "86b73689e45970735fdb8a1464f4df89636ecce53a8a5ca491958521f6bd0198"), looks := false }, kinds := [], alts := [], laidByText := true, laidKinds := [.sentinel], laidTests := true, laidLooks := .later }
def FnUnsafeAddRaftVoterRequestCardSaid : Prop := Claim7.holds Tryd.pinned (.plain (OpenSpec.ofChange fnUnsafeAddRaftVoterRequestSpec)) fnUnsafeAddRaftVoterRequestCard

/-- THE TIED CARD OF 'laws.FnUnsafeConsumerGroupHeartbeatResponse'. -/
def fnUnsafeConsumerGroupHeartbeatResponseCard : Claim7 := { stood := { row := fnUnsafeConsumerGroupHeartbeatResponseRow, standIns := [], harness := (true, "86b73689e45970735fdb8a1464f4df89636ecce53a8a5ca491958521f6bd0198"), looks := false }, kinds := [], alts := [], laidByText := true, laidKinds := [.sentinel], laidTests := true, laidLooks := .later }
def FnUnsafeConsumerGroupHeartbeatResponseCardSaid : Prop := Claim7.holds Tryd.pinned (.plain (OpenSpec.ofChange fnUnsafeConsumerGroupHeartbeatResponseSpec)) fnUnsafeConsumerGroupHeartbeatResponseCard

/-- THE TIED CARD OF 'laws.FnUnsafeControllerRegistrationRequest'. -/
def fnUnsafeControllerRegistrationRequestCard : Claim7 := { stood := { row := fnUnsafeControllerRegistrationRequestRow, standIns := [], harness := (true, "86b73689e45970735fdb8a1464f4df89636ecce53a8a5ca491958521f6bd0198"), looks := false }, kinds := [], alts := [], laidByText := true, laidKinds := [.sentinel], laidTests := true, laidLooks := .later }
def FnUnsafeControllerRegistrationRequestCardSaid : Prop := Claim7.holds Tryd.pinned (.plain (OpenSpec.ofChange fnUnsafeControllerRegistrationRequestSpec)) fnUnsafeControllerRegistrationRequestCard

/-- THE TIED CARD OF 'laws.FnUnsafeShareAcknowledgeRequest'. -/
def fnUnsafeShareAcknowledgeRequestCard : Claim7 := { stood := { row := fnUnsafeShareAcknowledgeRequestRow, standIns := [], harness := (true, "86b73689e45970735fdb8a1464f4df89636ecce53a8a5ca491958521f6bd0198"), looks := false }, kinds := [], alts := [], laidByText := true, laidKinds := [.sentinel], laidTests := true, laidLooks := .later }
def FnUnsafeShareAcknowledgeRequestCardSaid : Prop := Claim7.holds Tryd.pinned (.plain (OpenSpec.ofChange fnUnsafeShareAcknowledgeRequestSpec)) fnUnsafeShareAcknowledgeRequestCard

/-- THE SECOND FORM's CARD OF 'laws.FnUnsafeLeaderAndISRResponse'. -/
def fnUnsafeLeaderAndISRResponseUptoCard : Claim7 := { stood := { row := fnUnsafeLeaderAndISRResponseUptoRow, standIns := [], harness := (true, "86b73689e45970735fdb8a1464f4df89636ecce53a8a5ca491958521f6bd0198"), looks := false }, kinds := [], alts := [], laidByText := true, laidKinds := [.sentinel], laidTests := true, laidLooks := .later }
def FnUnsafeLeaderAndISRResponseUptoCardSaid : Prop := Claim7.holds Tryd.pinned (.plain (OpenSpec.upto fnUnsafeLeaderAndISRResponseSpec)) fnUnsafeLeaderAndISRResponseUptoCard

/-- THE SECOND FORM's CARD OF 'laws.FnUnsafeAddRaftVoterRequest'. -/
def fnUnsafeAddRaftVoterRequestUptoCard : Claim7 := { stood := { row := fnUnsafeAddRaftVoterRequestUptoRow, standIns := [], harness := (true, "86b73689e45970735fdb8a1464f4df89636ecce53a8a5ca491958521f6bd0198"), looks := false }, kinds := [], alts := [], laidByText := true, laidKinds := [.sentinel], laidTests := true, laidLooks := .later }
def FnUnsafeAddRaftVoterRequestUptoCardSaid : Prop := Claim7.holds Tryd.pinned (.plain (OpenSpec.upto fnUnsafeAddRaftVoterRequestSpec)) fnUnsafeAddRaftVoterRequestUptoCard

/-- THE SECOND FORM's CARD OF 'laws.FnUnsafeConsumerGroupHeartbeatResponse'. -/
def fnUnsafeConsumerGroupHeartbeatResponseUptoCard : Claim7 := { stood := { row := fnUnsafeConsumerGroupHeartbeatResponseUptoRow, standIns := [], harness := (true, "86b73689e45970735fdb8a1464f4df89636ecce53a8a5ca491958521f6bd0198"), looks := false }, kinds := [], alts := [], laidByText := true, laidKinds := [.sentinel], laidTests := true, laidLooks := .later }
def FnUnsafeConsumerGroupHeartbeatResponseUptoCardSaid : Prop := Claim7.holds Tryd.pinned (.plain (OpenSpec.upto fnUnsafeConsumerGroupHeartbeatResponseSpec)) fnUnsafeConsumerGroupHeartbeatResponseUptoCard

/-- THE SECOND FORM's CARD OF 'laws.FnUnsafeControllerRegistrationRequest'. -/
def fnUnsafeControllerRegistrationRequestUptoCard : Claim7 := { stood := { row := fnUnsafeControllerRegistrationRequestUptoRow, standIns := [], harness := (true, "86b73689e45970735fdb8a1464f4df89636ecce53a8a5ca491958521f6bd0198"), looks := false }, kinds := [], alts := [], laidByText := true, laidKinds := [.sentinel], laidTests := true, laidLooks := .later }
def FnUnsafeControllerRegistrationRequestUptoCardSaid : Prop := Claim7.holds Tryd.pinned (.plain (OpenSpec.upto fnUnsafeControllerRegistrationRequestSpec)) fnUnsafeControllerRegistrationRequestUptoCard

/-- THE SECOND FORM's CARD OF 'laws.FnUnsafeShareAcknowledgeRequest'. -/
def fnUnsafeShareAcknowledgeRequestUptoCard : Claim7 := { stood := { row := fnUnsafeShareAcknowledgeRequestUptoRow, standIns := [], harness := (true, "86b73689e45970735fdb8a1464f4df89636ecce53a8a5ca491958521f6bd0198"), looks := false }, kinds := [], alts := [], laidByText := true, laidKinds := [.sentinel], laidTests := true, laidLooks := .later }
def FnUnsafeShareAcknowledgeRequestUptoCardSaid : Prop := Claim7.holds Tryd.pinned (.plain (OpenSpec.upto fnUnsafeShareAcknowledgeRequestSpec)) fnUnsafeShareAcknowledgeRequestUptoCard
end Rows
end Go.Proofs.YthholdjpcdpceabDoor
