/-
  DERIVED. GIVEN WITH THE SEED: THE CARDS: each row of YtoopklfabccmnaaDoorRows.lean that lists a variable, with what it lists TIED to the program's text (the seventh form; the later family's looks); each row that meets fmt, with fmt's text TOLD by the authors' own Lean function (tested against real Go, not proved from fmt's source: count such statements apart). THE CARD IS WHAT COUNTS. Prove the row's statement (the work); the ties are given (YtoopklfabccmnaaDoorTie.lean); close each card by the builder's one call (the guide's Derived/Test/ToyasCard.lean, 'card_holds'). Laid BY PROGRAM, IN A SANDBOX (cutbox-door.mjs). By AI agents, Wed Nov 11 2026. No macro, syntax, notation, axiom, sorry.
-/
import Derived.Test.YtoopklfabccmnaaDoorRows
import GoSem.ClaimSeven
namespace Go.Proofs.YtoopklfabccmnaaDoor
namespace Rows

/-- THE TIED CARD OF 'laws.FnTellLeaderChangeMessage'. -/
def fnTellLeaderChangeMessageCard : Claim7 := { stood := { row := fnTellLeaderChangeMessageRow, standIns := [], harness := (true, "38dbf0e56d74ddd6d94fe9869d6fa5e958ef4c9bee5b64abd675ef26d6329d77"), looks := false }, kinds := [], alts := [], laidByText := true, laidKinds := [.sentinel], laidTests := true, laidLooks := .later }
def FnTellLeaderChangeMessageCardSaid : Prop := Claim7.holds Tryd.pinned (.plain (OpenSpec.ofChange fnTellLeaderChangeMessageSpec)) fnTellLeaderChangeMessageCard

/-- THE SECOND FORM's CARD OF 'laws.FnTellLeaderChangeMessage'. -/
def fnTellLeaderChangeMessageUptoCard : Claim7 := { stood := { row := fnTellLeaderChangeMessageUptoRow, standIns := [], harness := (true, "38dbf0e56d74ddd6d94fe9869d6fa5e958ef4c9bee5b64abd675ef26d6329d77"), looks := false }, kinds := [], alts := [], laidByText := true, laidKinds := [.sentinel], laidTests := true, laidLooks := .later }
def FnTellLeaderChangeMessageUptoCardSaid : Prop := Claim7.holds Tryd.pinned (.plain (OpenSpec.upto fnTellLeaderChangeMessageSpec)) fnTellLeaderChangeMessageUptoCard
end Rows
end Go.Proofs.YtoopklfabccmnaaDoor
