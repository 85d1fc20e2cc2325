/-
  DERIVED. GIVEN WITH THE SEED: THE CARDS: each row of YticigmdbfimfbaaDoorRows.lean that lists a variable, with what it lists TIED to the program's text (the seventh form; the later family's looks); each row that meets fmt, with fmt's text TOLD by the authors' own Lean function (tested against real Go, not proved from fmt's source: count such statements apart). THE CARD IS WHAT COUNTS. Prove the row's statement (the work); the ties are given (YticigmdbfimfbaaDoorTie.lean); close each card by the builder's one call (the guide's Derived/Test/ToyasCard.lean, 'card_holds'). Laid BY PROGRAM, IN A SANDBOX (cutbox-door.mjs). By AI agents, Wed Nov 11 2026. No macro, syntax, notation, axiom, sorry.
-/
import Derived.Test.YticigmdbfimfbaaDoorRows
import GoSem.ClaimSeven
namespace Go.Proofs.YticigmdbfimfbaaDoor
namespace Rows

/-- THE TIED CARD OF 'laws.FnTellAddOffsetsToTxnResponse'. -/
def fnTellAddOffsetsToTxnResponseCard : Claim7 := { stood := { row := fnTellAddOffsetsToTxnResponseRow, standIns := [], harness := (true, "3a75273f543545a8bbd0e47bf98d2a9b42c26967b15c8bf0e7aeed847cf12959"), looks := false }, kinds := [], alts := [], laidByText := true, laidKinds := [.sentinel], laidTests := true, laidLooks := .later }
def FnTellAddOffsetsToTxnResponseCardSaid : Prop := Claim7.holds Tryd.pinned (.plain (OpenSpec.ofChange fnTellAddOffsetsToTxnResponseSpec)) fnTellAddOffsetsToTxnResponseCard

/-- THE TIED CARD OF 'laws.FnTellExpireDelegationTokenResponse'. -/
def fnTellExpireDelegationTokenResponseCard : Claim7 := { stood := { row := fnTellExpireDelegationTokenResponseRow, standIns := [], harness := (true, "3a75273f543545a8bbd0e47bf98d2a9b42c26967b15c8bf0e7aeed847cf12959"), looks := false }, kinds := [], alts := [], laidByText := true, laidKinds := [.sentinel], laidTests := true, laidLooks := .later }
def FnTellExpireDelegationTokenResponseCardSaid : Prop := Claim7.holds Tryd.pinned (.plain (OpenSpec.ofChange fnTellExpireDelegationTokenResponseSpec)) fnTellExpireDelegationTokenResponseCard

/-- THE TIED CARD OF 'laws.FnTellRenewDelegationTokenRequest'. -/
def fnTellRenewDelegationTokenRequestCard : Claim7 := { stood := { row := fnTellRenewDelegationTokenRequestRow, standIns := [], harness := (true, "3a75273f543545a8bbd0e47bf98d2a9b42c26967b15c8bf0e7aeed847cf12959"), looks := false }, kinds := [], alts := [], laidByText := true, laidKinds := [.sentinel], laidTests := true, laidLooks := .later }
def FnTellRenewDelegationTokenRequestCardSaid : Prop := Claim7.holds Tryd.pinned (.plain (OpenSpec.ofChange fnTellRenewDelegationTokenRequestSpec)) fnTellRenewDelegationTokenRequestCard

/-- THE TIED CARD OF 'laws.FnTellEnvelopeRequest'. -/
def fnTellEnvelopeRequestCard : Claim7 := { stood := { row := fnTellEnvelopeRequestRow, standIns := [], harness := (true, "3a75273f543545a8bbd0e47bf98d2a9b42c26967b15c8bf0e7aeed847cf12959"), looks := false }, kinds := [], alts := [], laidByText := true, laidKinds := [.sentinel], laidTests := true, laidLooks := .later }
def FnTellEnvelopeRequestCardSaid : Prop := Claim7.holds Tryd.pinned (.plain (OpenSpec.ofChange fnTellEnvelopeRequestSpec)) fnTellEnvelopeRequestCard

/-- THE TIED CARD OF 'laws.FnTellLeaderChangeMessage'. -/
def fnTellLeaderChangeMessageCard : Claim7 := { stood := { row := fnTellLeaderChangeMessageRow, standIns := [], harness := (true, "3a75273f543545a8bbd0e47bf98d2a9b42c26967b15c8bf0e7aeed847cf12959"), looks := false }, kinds := [], alts := [], laidByText := true, laidKinds := [.sentinel], laidTests := true, laidLooks := .later }
def FnTellLeaderChangeMessageCardSaid : Prop := Claim7.holds Tryd.pinned (.plain (OpenSpec.ofChange fnTellLeaderChangeMessageSpec)) fnTellLeaderChangeMessageCard

/-- THE SECOND FORM's CARD OF 'laws.FnTellAddOffsetsToTxnResponse'. -/
def fnTellAddOffsetsToTxnResponseUptoCard : Claim7 := { stood := { row := fnTellAddOffsetsToTxnResponseUptoRow, standIns := [], harness := (true, "3a75273f543545a8bbd0e47bf98d2a9b42c26967b15c8bf0e7aeed847cf12959"), looks := false }, kinds := [], alts := [], laidByText := true, laidKinds := [.sentinel], laidTests := true, laidLooks := .later }
def FnTellAddOffsetsToTxnResponseUptoCardSaid : Prop := Claim7.holds Tryd.pinned (.plain (OpenSpec.upto fnTellAddOffsetsToTxnResponseSpec)) fnTellAddOffsetsToTxnResponseUptoCard

/-- THE SECOND FORM's CARD OF 'laws.FnTellExpireDelegationTokenResponse'. -/
def fnTellExpireDelegationTokenResponseUptoCard : Claim7 := { stood := { row := fnTellExpireDelegationTokenResponseUptoRow, standIns := [], harness := (true, "3a75273f543545a8bbd0e47bf98d2a9b42c26967b15c8bf0e7aeed847cf12959"), looks := false }, kinds := [], alts := [], laidByText := true, laidKinds := [.sentinel], laidTests := true, laidLooks := .later }
def FnTellExpireDelegationTokenResponseUptoCardSaid : Prop := Claim7.holds Tryd.pinned (.plain (OpenSpec.upto fnTellExpireDelegationTokenResponseSpec)) fnTellExpireDelegationTokenResponseUptoCard

/-- THE SECOND FORM's CARD OF 'laws.FnTellRenewDelegationTokenRequest'. -/
def fnTellRenewDelegationTokenRequestUptoCard : Claim7 := { stood := { row := fnTellRenewDelegationTokenRequestUptoRow, standIns := [], harness := (true, "3a75273f543545a8bbd0e47bf98d2a9b42c26967b15c8bf0e7aeed847cf12959"), looks := false }, kinds := [], alts := [], laidByText := true, laidKinds := [.sentinel], laidTests := true, laidLooks := .later }
def FnTellRenewDelegationTokenRequestUptoCardSaid : Prop := Claim7.holds Tryd.pinned (.plain (OpenSpec.upto fnTellRenewDelegationTokenRequestSpec)) fnTellRenewDelegationTokenRequestUptoCard

/-- THE SECOND FORM's CARD OF 'laws.FnTellEnvelopeRequest'. -/
def fnTellEnvelopeRequestUptoCard : Claim7 := { stood := { row := fnTellEnvelopeRequestUptoRow, standIns := [], harness := (true, "3a75273f543545a8bbd0e47bf98d2a9b42c26967b15c8bf0e7aeed847cf12959"), looks := false }, kinds := [], alts := [], laidByText := true, laidKinds := [.sentinel], laidTests := true, laidLooks := .later }
def FnTellEnvelopeRequestUptoCardSaid : Prop := Claim7.holds Tryd.pinned (.plain (OpenSpec.upto fnTellEnvelopeRequestSpec)) fnTellEnvelopeRequestUptoCard

/-- THE SECOND FORM's CARD OF 'laws.FnTellLeaderChangeMessage'. -/
def fnTellLeaderChangeMessageUptoCard : Claim7 := { stood := { row := fnTellLeaderChangeMessageUptoRow, standIns := [], harness := (true, "3a75273f543545a8bbd0e47bf98d2a9b42c26967b15c8bf0e7aeed847cf12959"), looks := false }, kinds := [], alts := [], laidByText := true, laidKinds := [.sentinel], laidTests := true, laidLooks := .later }
def FnTellLeaderChangeMessageUptoCardSaid : Prop := Claim7.holds Tryd.pinned (.plain (OpenSpec.upto fnTellLeaderChangeMessageSpec)) fnTellLeaderChangeMessageUptoCard
end Rows
end Go.Proofs.YticigmdbfimfbaaDoor
