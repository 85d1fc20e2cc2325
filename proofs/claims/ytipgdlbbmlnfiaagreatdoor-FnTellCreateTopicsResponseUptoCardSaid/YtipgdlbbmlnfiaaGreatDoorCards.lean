/-
  DERIVED. GIVEN WITH THE SEED: THE CARDS: each row of YtipgdlbbmlnfiaaGreatDoorRows.lean that lists a variable, with what it lists TIED to the program's text (the seventh form; the later family's looks); each row that meets fmt, with fmt's text TOLD by the authors' own Lean function (tested against real Go, not proved from fmt's source: count such statements apart). THE CARD IS WHAT COUNTS. Prove the row's statement (the work); the ties are given (YtipgdlbbmlnfiaaGreatDoorTie.lean); close each card by the builder's one call (the guide's Derived/Test/ToyasCard.lean, 'card_holds'). Laid BY PROGRAM, IN A SANDBOX (cutbox-door.mjs). By AI agents, Wed Nov 11 2026. No macro, syntax, notation, axiom, sorry.
-/
import Derived.Test.YtipgdlbbmlnfiaaGreatDoorRows
import GoSem.ClaimSeven
namespace Go.Proofs.YtipgdlbbmlnfiaaGreatDoor
namespace Rows

/-- THE TIED CARD OF 'laws.FnTellBeginQuorumEpochResponse'. -/
def fnTellBeginQuorumEpochResponseCard : Claim7 := { stood := { row := fnTellBeginQuorumEpochResponseRow, standIns := [], harness := (true, "1927290a2253d7435a2ad3abb6a7c8d00e9e9394451682008fd73093163ee40f"), looks := false }, kinds := [], alts := [], laidByText := true, laidKinds := [.sentinel], laidTests := true, laidLooks := .later }
def FnTellBeginQuorumEpochResponseCardSaid : Prop := Claim7.holds Tryz.pinned (.plain (OpenSpec.ofChange fnTellBeginQuorumEpochResponseSpec)) fnTellBeginQuorumEpochResponseCard

/-- THE TIED CARD OF 'laws.FnTellEndQuorumEpochResponse'. -/
def fnTellEndQuorumEpochResponseCard : Claim7 := { stood := { row := fnTellEndQuorumEpochResponseRow, standIns := [], harness := (true, "1927290a2253d7435a2ad3abb6a7c8d00e9e9394451682008fd73093163ee40f"), looks := false }, kinds := [], alts := [], laidByText := true, laidKinds := [.sentinel], laidTests := true, laidLooks := .later }
def FnTellEndQuorumEpochResponseCardSaid : Prop := Claim7.holds Tryz.pinned (.plain (OpenSpec.ofChange fnTellEndQuorumEpochResponseSpec)) fnTellEndQuorumEpochResponseCard

/-- THE TIED CARD OF 'laws.FnTellFetchSnapshotRequest'. -/
def fnTellFetchSnapshotRequestCard : Claim7 := { stood := { row := fnTellFetchSnapshotRequestRow, standIns := [], harness := (true, "1927290a2253d7435a2ad3abb6a7c8d00e9e9394451682008fd73093163ee40f"), looks := false }, kinds := [], alts := [], laidByText := true, laidKinds := [.sentinel], laidTests := true, laidLooks := .later }
def FnTellFetchSnapshotRequestCardSaid : Prop := Claim7.holds Tryz.pinned (.plain (OpenSpec.ofChange fnTellFetchSnapshotRequestSpec)) fnTellFetchSnapshotRequestCard

/-- THE TIED CARD OF 'laws.FnTellCreateTopicsResponse'. -/
def fnTellCreateTopicsResponseCard : Claim7 := { stood := { row := fnTellCreateTopicsResponseRow, standIns := [], harness := (true, "1927290a2253d7435a2ad3abb6a7c8d00e9e9394451682008fd73093163ee40f"), looks := false }, kinds := [], alts := [], laidByText := true, laidKinds := [.sentinel], laidTests := true, laidLooks := .later }
def FnTellCreateTopicsResponseCardSaid : Prop := Claim7.holds Tryz.pinned (.plain (OpenSpec.ofChange fnTellCreateTopicsResponseSpec)) fnTellCreateTopicsResponseCard

/-- THE SECOND FORM's CARD OF 'laws.FnTellBeginQuorumEpochResponse'. -/
def fnTellBeginQuorumEpochResponseUptoCard : Claim7 := { stood := { row := fnTellBeginQuorumEpochResponseUptoRow, standIns := [], harness := (true, "1927290a2253d7435a2ad3abb6a7c8d00e9e9394451682008fd73093163ee40f"), looks := false }, kinds := [], alts := [], laidByText := true, laidKinds := [.sentinel], laidTests := true, laidLooks := .later }
def FnTellBeginQuorumEpochResponseUptoCardSaid : Prop := Claim7.holds Tryz.pinned (.plain (OpenSpec.upto fnTellBeginQuorumEpochResponseSpec)) fnTellBeginQuorumEpochResponseUptoCard

/-- THE SECOND FORM's CARD OF 'laws.FnTellEndQuorumEpochResponse'. -/
def fnTellEndQuorumEpochResponseUptoCard : Claim7 := { stood := { row := fnTellEndQuorumEpochResponseUptoRow, standIns := [], harness := (true, "1927290a2253d7435a2ad3abb6a7c8d00e9e9394451682008fd73093163ee40f"), looks := false }, kinds := [], alts := [], laidByText := true, laidKinds := [.sentinel], laidTests := true, laidLooks := .later }
def FnTellEndQuorumEpochResponseUptoCardSaid : Prop := Claim7.holds Tryz.pinned (.plain (OpenSpec.upto fnTellEndQuorumEpochResponseSpec)) fnTellEndQuorumEpochResponseUptoCard

/-- THE SECOND FORM's CARD OF 'laws.FnTellFetchSnapshotRequest'. -/
def fnTellFetchSnapshotRequestUptoCard : Claim7 := { stood := { row := fnTellFetchSnapshotRequestUptoRow, standIns := [], harness := (true, "1927290a2253d7435a2ad3abb6a7c8d00e9e9394451682008fd73093163ee40f"), looks := false }, kinds := [], alts := [], laidByText := true, laidKinds := [.sentinel], laidTests := true, laidLooks := .later }
def FnTellFetchSnapshotRequestUptoCardSaid : Prop := Claim7.holds Tryz.pinned (.plain (OpenSpec.upto fnTellFetchSnapshotRequestSpec)) fnTellFetchSnapshotRequestUptoCard

/-- THE SECOND FORM's CARD OF 'laws.FnTellCreateTopicsResponse'. -/
def fnTellCreateTopicsResponseUptoCard : Claim7 := { stood := { row := fnTellCreateTopicsResponseUptoRow, standIns := [], harness := (true, "1927290a2253d7435a2ad3abb6a7c8d00e9e9394451682008fd73093163ee40f"), looks := false }, kinds := [], alts := [], laidByText := true, laidKinds := [.sentinel], laidTests := true, laidLooks := .later }
def FnTellCreateTopicsResponseUptoCardSaid : Prop := Claim7.holds Tryz.pinned (.plain (OpenSpec.upto fnTellCreateTopicsResponseSpec)) fnTellCreateTopicsResponseUptoCard
end Rows
end Go.Proofs.YtipgdlbbmlnfiaaGreatDoor
