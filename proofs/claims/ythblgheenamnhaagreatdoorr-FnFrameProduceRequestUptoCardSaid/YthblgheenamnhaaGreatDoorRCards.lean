/-
  DERIVED. GIVEN WITH THE SEED: THE CARDS: each row of YthblgheenamnhaaGreatDoorRRows.lean that lists a variable, with what it lists TIED to the program's text (the seventh form; the later family's looks); each row that meets fmt, with fmt's text TOLD by the authors' own Lean function (tested against real Go, not proved from fmt's source: count such statements apart). THE CARD IS WHAT COUNTS. Prove the row's statement (the work); the ties are given (YthblgheenamnhaaGreatDoorRTie.lean); close each card by the builder's one call (the guide's Derived/Test/ToyasCard.lean, 'card_holds'). Laid BY PROGRAM, IN A SANDBOX (cutbox-door.mjs). By AI agents, Wed Nov 11 2026. No macro, syntax, notation, axiom, sorry.
-/
import Derived.Test.YthblgheenamnhaaGreatDoorRRows
import GoSem.ClaimSeven
namespace Go.Proofs.YthblgheenamnhaaGreatDoorR
namespace Rows

/-- THE TIED CARD OF 'laws.FnFrameWriteShareGroupStateRequest'. -/
def fnFrameWriteShareGroupStateRequestCard : Claim7 := { stood := { row := fnFrameWriteShareGroupStateRequestRow, standIns := [], harness := (true, "603592f428346a6347378d360b74887d44ce552149e4c0c03d803615078665be"), looks := false }, kinds := [], alts := [], laidByText := true, laidKinds := [.sentinel], laidTests := true, laidLooks := .later }
def FnFrameWriteShareGroupStateRequestCardSaid : Prop := Claim7.holds Tryz.pinned (.plain (OpenSpec.ofChange fnFrameWriteShareGroupStateRequestSpec)) fnFrameWriteShareGroupStateRequestCard

/-- THE TIED CARD OF 'laws.FnFrameJoinGroupRequest'. -/
def fnFrameJoinGroupRequestCard : Claim7 := { stood := { row := fnFrameJoinGroupRequestRow, standIns := [], harness := (true, "603592f428346a6347378d360b74887d44ce552149e4c0c03d803615078665be"), looks := false }, kinds := [], alts := [], laidByText := true, laidKinds := [.sentinel], laidTests := true, laidLooks := .later }
def FnFrameJoinGroupRequestCardSaid : Prop := Claim7.holds Tryz.pinned (.plain (OpenSpec.ofChange fnFrameJoinGroupRequestSpec)) fnFrameJoinGroupRequestCard

/-- THE TIED CARD OF 'laws.FnFrameAlterShareGroupOffsetsRequest'. -/
def fnFrameAlterShareGroupOffsetsRequestCard : Claim7 := { stood := { row := fnFrameAlterShareGroupOffsetsRequestRow, standIns := [], harness := (true, "603592f428346a6347378d360b74887d44ce552149e4c0c03d803615078665be"), looks := false }, kinds := [], alts := [], laidByText := true, laidKinds := [.sentinel], laidTests := true, laidLooks := .later }
def FnFrameAlterShareGroupOffsetsRequestCardSaid : Prop := Claim7.holds Tryz.pinned (.plain (OpenSpec.ofChange fnFrameAlterShareGroupOffsetsRequestSpec)) fnFrameAlterShareGroupOffsetsRequestCard

/-- THE TIED CARD OF 'laws.FnFrameProduceRequest'. -/
def fnFrameProduceRequestCard : Claim7 := { stood := { row := fnFrameProduceRequestRow, standIns := [], harness := (true, "603592f428346a6347378d360b74887d44ce552149e4c0c03d803615078665be"), looks := false }, kinds := [], alts := [], laidByText := true, laidKinds := [.sentinel], laidTests := true, laidLooks := .later }
def FnFrameProduceRequestCardSaid : Prop := Claim7.holds Tryz.pinned (.plain (OpenSpec.ofChange fnFrameProduceRequestSpec)) fnFrameProduceRequestCard

/-- THE SECOND FORM's CARD OF 'laws.FnFrameWriteShareGroupStateRequest'. -/
def fnFrameWriteShareGroupStateRequestUptoCard : Claim7 := { stood := { row := fnFrameWriteShareGroupStateRequestUptoRow, standIns := [], harness := (true, "603592f428346a6347378d360b74887d44ce552149e4c0c03d803615078665be"), looks := false }, kinds := [], alts := [], laidByText := true, laidKinds := [.sentinel], laidTests := true, laidLooks := .later }
def FnFrameWriteShareGroupStateRequestUptoCardSaid : Prop := Claim7.holds Tryz.pinned (.plain (OpenSpec.upto fnFrameWriteShareGroupStateRequestSpec)) fnFrameWriteShareGroupStateRequestUptoCard

/-- THE SECOND FORM's CARD OF 'laws.FnFrameJoinGroupRequest'. -/
def fnFrameJoinGroupRequestUptoCard : Claim7 := { stood := { row := fnFrameJoinGroupRequestUptoRow, standIns := [], harness := (true, "603592f428346a6347378d360b74887d44ce552149e4c0c03d803615078665be"), looks := false }, kinds := [], alts := [], laidByText := true, laidKinds := [.sentinel], laidTests := true, laidLooks := .later }
def FnFrameJoinGroupRequestUptoCardSaid : Prop := Claim7.holds Tryz.pinned (.plain (OpenSpec.upto fnFrameJoinGroupRequestSpec)) fnFrameJoinGroupRequestUptoCard

/-- THE SECOND FORM's CARD OF 'laws.FnFrameAlterShareGroupOffsetsRequest'. -/
def fnFrameAlterShareGroupOffsetsRequestUptoCard : Claim7 := { stood := { row := fnFrameAlterShareGroupOffsetsRequestUptoRow, standIns := [], harness := (true, "603592f428346a6347378d360b74887d44ce552149e4c0c03d803615078665be"), looks := false }, kinds := [], alts := [], laidByText := true, laidKinds := [.sentinel], laidTests := true, laidLooks := .later }
def FnFrameAlterShareGroupOffsetsRequestUptoCardSaid : Prop := Claim7.holds Tryz.pinned (.plain (OpenSpec.upto fnFrameAlterShareGroupOffsetsRequestSpec)) fnFrameAlterShareGroupOffsetsRequestUptoCard

/-- THE SECOND FORM's CARD OF 'laws.FnFrameProduceRequest'. -/
def fnFrameProduceRequestUptoCard : Claim7 := { stood := { row := fnFrameProduceRequestUptoRow, standIns := [], harness := (true, "603592f428346a6347378d360b74887d44ce552149e4c0c03d803615078665be"), looks := false }, kinds := [], alts := [], laidByText := true, laidKinds := [.sentinel], laidTests := true, laidLooks := .later }
def FnFrameProduceRequestUptoCardSaid : Prop := Claim7.holds Tryz.pinned (.plain (OpenSpec.upto fnFrameProduceRequestSpec)) fnFrameProduceRequestUptoCard
end Rows
end Go.Proofs.YthblgheenamnhaaGreatDoorR
