/-
  DERIVED. GIVEN WITH THE SEED: THE CARDS: each row of YtnoklacheaplkabGreatDoorRows.lean that lists a variable, with what it lists TIED to the program's text (the seventh form; the later family's looks); each row that meets fmt, with fmt's text TOLD by the authors' own Lean function (tested against real Go, not proved from fmt's source: count such statements apart). THE CARD IS WHAT COUNTS. Prove the row's statement (the work); the ties are given (YtnoklacheaplkabGreatDoorTie.lean); close each card by the builder's one call (the guide's Derived/Test/ToyasCard.lean, 'card_holds'). Laid BY PROGRAM, IN A SANDBOX (cutbox-door.mjs). By AI agents, Wed Nov 11 2026. No macro, syntax, notation, axiom, sorry.
-/
import Derived.Test.YtnoklacheaplkabGreatDoorRows
import GoSem.ClaimSeven
namespace Go.Proofs.YtnoklacheaplkabGreatDoor
namespace Rows

/-- THE TIED CARD OF 'laws.FnTellShareFetchResponse'. -/
def fnTellShareFetchResponseCard : Claim7 := { stood := { row := fnTellShareFetchResponseRow, standIns := [], harness := (true, "d520e7227f39f4596b3e01f1355a84ab0d056bc982332182dea21cb7b150b553"), looks := false }, kinds := [], alts := [], laidByText := true, laidKinds := [.sentinel], laidTests := true, laidLooks := .later }
def FnTellShareFetchResponseCardSaid : Prop := Claim7.holds Tryz.pinned (.plain (OpenSpec.ofChange fnTellShareFetchResponseSpec)) fnTellShareFetchResponseCard

/-- THE TIED CARD OF 'laws.FnTellDescribeQuorumResponse'. -/
def fnTellDescribeQuorumResponseCard : Claim7 := { stood := { row := fnTellDescribeQuorumResponseRow, standIns := [], harness := (true, "d520e7227f39f4596b3e01f1355a84ab0d056bc982332182dea21cb7b150b553"), looks := false }, kinds := [], alts := [], laidByText := true, laidKinds := [.sentinel], laidTests := true, laidLooks := .later }
def FnTellDescribeQuorumResponseCardSaid : Prop := Claim7.holds Tryz.pinned (.plain (OpenSpec.ofChange fnTellDescribeQuorumResponseSpec)) fnTellDescribeQuorumResponseCard

/-- THE SECOND FORM's CARD OF 'laws.FnTellShareFetchResponse'. -/
def fnTellShareFetchResponseUptoCard : Claim7 := { stood := { row := fnTellShareFetchResponseUptoRow, standIns := [], harness := (true, "d520e7227f39f4596b3e01f1355a84ab0d056bc982332182dea21cb7b150b553"), looks := false }, kinds := [], alts := [], laidByText := true, laidKinds := [.sentinel], laidTests := true, laidLooks := .later }
def FnTellShareFetchResponseUptoCardSaid : Prop := Claim7.holds Tryz.pinned (.plain (OpenSpec.upto fnTellShareFetchResponseSpec)) fnTellShareFetchResponseUptoCard

/-- THE SECOND FORM's CARD OF 'laws.FnTellDescribeQuorumResponse'. -/
def fnTellDescribeQuorumResponseUptoCard : Claim7 := { stood := { row := fnTellDescribeQuorumResponseUptoRow, standIns := [], harness := (true, "d520e7227f39f4596b3e01f1355a84ab0d056bc982332182dea21cb7b150b553"), looks := false }, kinds := [], alts := [], laidByText := true, laidKinds := [.sentinel], laidTests := true, laidLooks := .later }
def FnTellDescribeQuorumResponseUptoCardSaid : Prop := Claim7.holds Tryz.pinned (.plain (OpenSpec.upto fnTellDescribeQuorumResponseSpec)) fnTellDescribeQuorumResponseUptoCard
end Rows
end Go.Proofs.YtnoklacheaplkabGreatDoor
