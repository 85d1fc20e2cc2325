/-
  DERIVED. GIVEN WITH THE SEED: THE CARDS: each row of YtpjichobdalpjaaDoorRows.lean that lists a variable, with what it lists TIED to the program's text (the seventh form; the later family's looks); each row that meets fmt, with fmt's text TOLD by the authors' own Lean function (tested against real Go, not proved from fmt's source: count such statements apart). THE CARD IS WHAT COUNTS. Prove the row's statement (the work); the ties are given (YtpjichobdalpjaaDoorTie.lean); close each card by the builder's one call (the guide's Derived/Test/ToyasCard.lean, 'card_holds'). Laid BY PROGRAM, IN A SANDBOX (cutbox-door.mjs). By AI agents, Wed Nov 11 2026. No macro, syntax, notation, axiom, sorry.
-/
import Derived.Test.YtpjichobdalpjaaDoorRows
import GoSem.ClaimSeven
namespace Go.Proofs.YtpjichobdalpjaaDoor
namespace Rows

/-- THE TIED CARD OF 'laws.FnBehindListConfigResourcesRequest'. -/
def fnBehindListConfigResourcesRequestCard : Claim7 := { stood := { row := fnBehindListConfigResourcesRequestRow, standIns := [], harness := (true, "503e6d0003cca1c11afe6661493307fc5e0a1d2a69c9feecf886e3094b246c32"), looks := false }, kinds := [], alts := [], laidByText := true, laidKinds := [.sentinel], laidTests := true, laidLooks := .later }
def FnBehindListConfigResourcesRequestCardSaid : Prop := Claim7.holds Tryd.pinned (.plain (OpenSpec.ofChange fnBehindListConfigResourcesRequestSpec)) fnBehindListConfigResourcesRequestCard

/-- THE SECOND FORM's CARD OF 'laws.FnBehindListConfigResourcesRequest'. -/
def fnBehindListConfigResourcesRequestUptoCard : Claim7 := { stood := { row := fnBehindListConfigResourcesRequestUptoRow, standIns := [], harness := (true, "503e6d0003cca1c11afe6661493307fc5e0a1d2a69c9feecf886e3094b246c32"), looks := false }, kinds := [], alts := [], laidByText := true, laidKinds := [.sentinel], laidTests := true, laidLooks := .later }
def FnBehindListConfigResourcesRequestUptoCardSaid : Prop := Claim7.holds Tryd.pinned (.plain (OpenSpec.upto fnBehindListConfigResourcesRequestSpec)) fnBehindListConfigResourcesRequestUptoCard
end Rows
end Go.Proofs.YtpjichobdalpjaaDoor
