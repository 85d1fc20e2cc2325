/-
  DERIVED. GIVEN WITH THE SEED: THE CARDS: each row of YticigmdbfimfbaaGreatDoorRows.lean that lists a variable, with what it lists TIED to the program's text (the seventh form; the later family's looks); each row that meets fmt, with fmt's text TOLD by the authors' own Lean function (tested against real Go, not proved from fmt's source: count such statements apart). THE CARD IS WHAT COUNTS. Prove the row's statement (the work); the ties are given (YticigmdbfimfbaaGreatDoorTie.lean); close each card by the builder's one call (the guide's Derived/Test/ToyasCard.lean, 'card_holds'). Laid BY PROGRAM, IN A SANDBOX (cutbox-door.mjs). By AI agents, Wed Nov 11 2026. No macro, syntax, notation, axiom, sorry.
-/
import Derived.Test.YticigmdbfimfbaaGreatDoorRows
import GoSem.ClaimSeven
namespace Go.Proofs.YticigmdbfimfbaaGreatDoor
namespace Rows

/-- THE TIED CARD OF 'laws.FnTellHeartbeatRequest'. -/
def fnTellHeartbeatRequestCard : Claim7 := { stood := { row := fnTellHeartbeatRequestRow, standIns := [], harness := (true, "98e343f43969bfb482cbf229e8557f1eb4b675f43c4f0571d12e5c6391dfe9f2"), looks := false }, kinds := [], alts := [], laidByText := true, laidKinds := [.sentinel], laidTests := true, laidLooks := .later }
def FnTellHeartbeatRequestCardSaid : Prop := Claim7.holds Tryz.pinned (.plain (OpenSpec.ofChange fnTellHeartbeatRequestSpec)) fnTellHeartbeatRequestCard

/-- THE TIED CARD OF 'laws.FnTellStopReplicaResponse'. -/
def fnTellStopReplicaResponseCard : Claim7 := { stood := { row := fnTellStopReplicaResponseRow, standIns := [], harness := (true, "98e343f43969bfb482cbf229e8557f1eb4b675f43c4f0571d12e5c6391dfe9f2"), looks := false }, kinds := [], alts := [], laidByText := true, laidKinds := [.sentinel], laidTests := true, laidLooks := .later }
def FnTellStopReplicaResponseCardSaid : Prop := Claim7.holds Tryz.pinned (.plain (OpenSpec.ofChange fnTellStopReplicaResponseSpec)) fnTellStopReplicaResponseCard

/-- THE TIED CARD OF 'laws.FnTellSASLAuthenticateResponse'. -/
def fnTellSASLAuthenticateResponseCard : Claim7 := { stood := { row := fnTellSASLAuthenticateResponseRow, standIns := [], harness := (true, "98e343f43969bfb482cbf229e8557f1eb4b675f43c4f0571d12e5c6391dfe9f2"), looks := false }, kinds := [], alts := [], laidByText := true, laidKinds := [.sentinel], laidTests := true, laidLooks := .later }
def FnTellSASLAuthenticateResponseCardSaid : Prop := Claim7.holds Tryz.pinned (.plain (OpenSpec.ofChange fnTellSASLAuthenticateResponseSpec)) fnTellSASLAuthenticateResponseCard

/-- THE TIED CARD OF 'laws.FnTellDescribeProducersRequest'. -/
def fnTellDescribeProducersRequestCard : Claim7 := { stood := { row := fnTellDescribeProducersRequestRow, standIns := [], harness := (true, "98e343f43969bfb482cbf229e8557f1eb4b675f43c4f0571d12e5c6391dfe9f2"), looks := false }, kinds := [], alts := [], laidByText := true, laidKinds := [.sentinel], laidTests := true, laidLooks := .later }
def FnTellDescribeProducersRequestCardSaid : Prop := Claim7.holds Tryz.pinned (.plain (OpenSpec.ofChange fnTellDescribeProducersRequestSpec)) fnTellDescribeProducersRequestCard

/-- THE TIED CARD OF 'laws.FnTellUpdateFeaturesRequest'. -/
def fnTellUpdateFeaturesRequestCard : Claim7 := { stood := { row := fnTellUpdateFeaturesRequestRow, standIns := [], harness := (true, "98e343f43969bfb482cbf229e8557f1eb4b675f43c4f0571d12e5c6391dfe9f2"), looks := false }, kinds := [], alts := [], laidByText := true, laidKinds := [.sentinel], laidTests := true, laidLooks := .later }
def FnTellUpdateFeaturesRequestCardSaid : Prop := Claim7.holds Tryz.pinned (.plain (OpenSpec.ofChange fnTellUpdateFeaturesRequestSpec)) fnTellUpdateFeaturesRequestCard

/-- THE TIED CARD OF 'laws.FnTellOffsetForLeaderEpochRequest'. -/
def fnTellOffsetForLeaderEpochRequestCard : Claim7 := { stood := { row := fnTellOffsetForLeaderEpochRequestRow, standIns := [], harness := (true, "98e343f43969bfb482cbf229e8557f1eb4b675f43c4f0571d12e5c6391dfe9f2"), looks := false }, kinds := [], alts := [], laidByText := true, laidKinds := [.sentinel], laidTests := true, laidLooks := .later }
def FnTellOffsetForLeaderEpochRequestCardSaid : Prop := Claim7.holds Tryz.pinned (.plain (OpenSpec.ofChange fnTellOffsetForLeaderEpochRequestSpec)) fnTellOffsetForLeaderEpochRequestCard

/-- THE TIED CARD OF 'laws.FnTellDeleteRecordsResponse'. -/
def fnTellDeleteRecordsResponseCard : Claim7 := { stood := { row := fnTellDeleteRecordsResponseRow, standIns := [], harness := (true, "98e343f43969bfb482cbf229e8557f1eb4b675f43c4f0571d12e5c6391dfe9f2"), looks := false }, kinds := [], alts := [], laidByText := true, laidKinds := [.sentinel], laidTests := true, laidLooks := .later }
def FnTellDeleteRecordsResponseCardSaid : Prop := Claim7.holds Tryz.pinned (.plain (OpenSpec.ofChange fnTellDeleteRecordsResponseSpec)) fnTellDeleteRecordsResponseCard

/-- THE SECOND FORM's CARD OF 'laws.FnTellHeartbeatRequest'. -/
def fnTellHeartbeatRequestUptoCard : Claim7 := { stood := { row := fnTellHeartbeatRequestUptoRow, standIns := [], harness := (true, "98e343f43969bfb482cbf229e8557f1eb4b675f43c4f0571d12e5c6391dfe9f2"), looks := false }, kinds := [], alts := [], laidByText := true, laidKinds := [.sentinel], laidTests := true, laidLooks := .later }
def FnTellHeartbeatRequestUptoCardSaid : Prop := Claim7.holds Tryz.pinned (.plain (OpenSpec.upto fnTellHeartbeatRequestSpec)) fnTellHeartbeatRequestUptoCard

/-- THE SECOND FORM's CARD OF 'laws.FnTellStopReplicaResponse'. -/
def fnTellStopReplicaResponseUptoCard : Claim7 := { stood := { row := fnTellStopReplicaResponseUptoRow, standIns := [], harness := (true, "98e343f43969bfb482cbf229e8557f1eb4b675f43c4f0571d12e5c6391dfe9f2"), looks := false }, kinds := [], alts := [], laidByText := true, laidKinds := [.sentinel], laidTests := true, laidLooks := .later }
def FnTellStopReplicaResponseUptoCardSaid : Prop := Claim7.holds Tryz.pinned (.plain (OpenSpec.upto fnTellStopReplicaResponseSpec)) fnTellStopReplicaResponseUptoCard

/-- THE SECOND FORM's CARD OF 'laws.FnTellSASLAuthenticateResponse'. -/
def fnTellSASLAuthenticateResponseUptoCard : Claim7 := { stood := { row := fnTellSASLAuthenticateResponseUptoRow, standIns := [], harness := (true, "98e343f43969bfb482cbf229e8557f1eb4b675f43c4f0571d12e5c6391dfe9f2"), looks := false }, kinds := [], alts := [], laidByText := true, laidKinds := [.sentinel], laidTests := true, laidLooks := .later }
def FnTellSASLAuthenticateResponseUptoCardSaid : Prop := Claim7.holds Tryz.pinned (.plain (OpenSpec.upto fnTellSASLAuthenticateResponseSpec)) fnTellSASLAuthenticateResponseUptoCard

/-- THE SECOND FORM's CARD OF 'laws.FnTellDescribeProducersRequest'. -/
def fnTellDescribeProducersRequestUptoCard : Claim7 := { stood := { row := fnTellDescribeProducersRequestUptoRow, standIns := [], harness := (true, "98e343f43969bfb482cbf229e8557f1eb4b675f43c4f0571d12e5c6391dfe9f2"), looks := false }, kinds := [], alts := [], laidByText := true, laidKinds := [.sentinel], laidTests := true, laidLooks := .later }
def FnTellDescribeProducersRequestUptoCardSaid : Prop := Claim7.holds Tryz.pinned (.plain (OpenSpec.upto fnTellDescribeProducersRequestSpec)) fnTellDescribeProducersRequestUptoCard

/-- THE SECOND FORM's CARD OF 'laws.FnTellUpdateFeaturesRequest'. -/
def fnTellUpdateFeaturesRequestUptoCard : Claim7 := { stood := { row := fnTellUpdateFeaturesRequestUptoRow, standIns := [], harness := (true, "98e343f43969bfb482cbf229e8557f1eb4b675f43c4f0571d12e5c6391dfe9f2"), looks := false }, kinds := [], alts := [], laidByText := true, laidKinds := [.sentinel], laidTests := true, laidLooks := .later }
def FnTellUpdateFeaturesRequestUptoCardSaid : Prop := Claim7.holds Tryz.pinned (.plain (OpenSpec.upto fnTellUpdateFeaturesRequestSpec)) fnTellUpdateFeaturesRequestUptoCard

/-- THE SECOND FORM's CARD OF 'laws.FnTellOffsetForLeaderEpochRequest'. -/
def fnTellOffsetForLeaderEpochRequestUptoCard : Claim7 := { stood := { row := fnTellOffsetForLeaderEpochRequestUptoRow, standIns := [], harness := (true, "98e343f43969bfb482cbf229e8557f1eb4b675f43c4f0571d12e5c6391dfe9f2"), looks := false }, kinds := [], alts := [], laidByText := true, laidKinds := [.sentinel], laidTests := true, laidLooks := .later }
def FnTellOffsetForLeaderEpochRequestUptoCardSaid : Prop := Claim7.holds Tryz.pinned (.plain (OpenSpec.upto fnTellOffsetForLeaderEpochRequestSpec)) fnTellOffsetForLeaderEpochRequestUptoCard

/-- THE SECOND FORM's CARD OF 'laws.FnTellDeleteRecordsResponse'. -/
def fnTellDeleteRecordsResponseUptoCard : Claim7 := { stood := { row := fnTellDeleteRecordsResponseUptoRow, standIns := [], harness := (true, "98e343f43969bfb482cbf229e8557f1eb4b675f43c4f0571d12e5c6391dfe9f2"), looks := false }, kinds := [], alts := [], laidByText := true, laidKinds := [.sentinel], laidTests := true, laidLooks := .later }
def FnTellDeleteRecordsResponseUptoCardSaid : Prop := Claim7.holds Tryz.pinned (.plain (OpenSpec.upto fnTellDeleteRecordsResponseSpec)) fnTellDeleteRecordsResponseUptoCard
end Rows
end Go.Proofs.YticigmdbfimfbaaGreatDoor
