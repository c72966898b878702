/-
  DERIVED. GIVEN WITH THE SEED: THE CARDS: each row of YtaagmmeanifopaaDoorRows.lean that lists a variable, with what it lists TIED to the program's text (the seventh form; the later family's looks); each row that meets fmt, with fmt's text TOLD by the authors' own Lean function (tested against real Go, not proved from fmt's source: count such statements apart). THE CARD IS WHAT COUNTS. Prove the row's statement (the work); the ties are given (YtaagmmeanifopaaDoorTie.lean); close each card by the builder's one call (the guide's Derived/Test/ToyasCard.lean, 'card_holds'). Laid BY PROGRAM, IN A SANDBOX (cutbox-door.mjs). By AI agents, Wed Nov 11 2026. No macro, syntax, notation, axiom, sorry.
-/
import Derived.Test.YtaagmmeanifopaaDoorRows
import GoSem.ClaimSeven
namespace Go.Proofs.YtaagmmeanifopaaDoor
namespace Rows

/-- THE TIED CARD OF 'laws.FnAgainGroupMetadataKey'. -/
def fnAgainGroupMetadataKeyCard : Claim7 := { stood := { row := fnAgainGroupMetadataKeyRow, standIns := [], harness := (true, "85d29c096a926c1035090538cbf9cecb604160919f0dc0bfe5bc7a81753480e1"), looks := false }, kinds := [], alts := [], laidByText := true, laidKinds := [.sentinel], laidTests := true, laidLooks := .later }
def FnAgainGroupMetadataKeyCardSaid : Prop := Claim7.holds Tryd.pinned (.plain (OpenSpec.ofChange fnAgainGroupMetadataKeySpec)) fnAgainGroupMetadataKeyCard

/-- THE TIED CARD OF 'laws.FnCutSASLHandshakeResponse'. -/
def fnCutSASLHandshakeResponseCard : Claim7 := { stood := { row := fnCutSASLHandshakeResponseRow, standIns := [], harness := (true, "85d29c096a926c1035090538cbf9cecb604160919f0dc0bfe5bc7a81753480e1"), looks := false }, kinds := [], alts := [], laidByText := true, laidKinds := [.sentinel], laidTests := true, laidLooks := .later }
def FnCutSASLHandshakeResponseCardSaid : Prop := Claim7.holds Tryd.pinned (.plain (OpenSpec.ofChange fnCutSASLHandshakeResponseSpec)) fnCutSASLHandshakeResponseCard

/-- THE TIED CARD OF 'laws.FnAgainAllocateProducerIDsRequest'. -/
def fnAgainAllocateProducerIDsRequestCard : Claim7 := { stood := { row := fnAgainAllocateProducerIDsRequestRow, standIns := [], harness := (true, "85d29c096a926c1035090538cbf9cecb604160919f0dc0bfe5bc7a81753480e1"), looks := false }, kinds := [], alts := [], laidByText := true, laidKinds := [.sentinel], laidTests := true, laidLooks := .later }
def FnAgainAllocateProducerIDsRequestCardSaid : Prop := Claim7.holds Tryd.pinned (.plain (OpenSpec.ofChange fnAgainAllocateProducerIDsRequestSpec)) fnAgainAllocateProducerIDsRequestCard

/-- THE TIED CARD OF 'laws.FnCutControlledShutdownRequest'. -/
def fnCutControlledShutdownRequestCard : Claim7 := { stood := { row := fnCutControlledShutdownRequestRow, standIns := [], harness := (true, "85d29c096a926c1035090538cbf9cecb604160919f0dc0bfe5bc7a81753480e1"), looks := false }, kinds := [], alts := [], laidByText := true, laidKinds := [.sentinel], laidTests := true, laidLooks := .later }
def FnCutControlledShutdownRequestCardSaid : Prop := Claim7.holds Tryd.pinned (.plain (OpenSpec.ofChange fnCutControlledShutdownRequestSpec)) fnCutControlledShutdownRequestCard

/-- THE TIED CARD OF 'laws.FnAgainRenewDelegationTokenResponse'. -/
def fnAgainRenewDelegationTokenResponseCard : Claim7 := { stood := { row := fnAgainRenewDelegationTokenResponseRow, standIns := [], harness := (true, "85d29c096a926c1035090538cbf9cecb604160919f0dc0bfe5bc7a81753480e1"), looks := false }, kinds := [], alts := [], laidByText := true, laidKinds := [.sentinel], laidTests := true, laidLooks := .later }
def FnAgainRenewDelegationTokenResponseCardSaid : Prop := Claim7.holds Tryd.pinned (.plain (OpenSpec.ofChange fnAgainRenewDelegationTokenResponseSpec)) fnAgainRenewDelegationTokenResponseCard

/-- THE SECOND FORM's CARD OF 'laws.FnAgainGroupMetadataKey'. -/
def fnAgainGroupMetadataKeyUptoCard : Claim7 := { stood := { row := fnAgainGroupMetadataKeyUptoRow, standIns := [], harness := (true, "85d29c096a926c1035090538cbf9cecb604160919f0dc0bfe5bc7a81753480e1"), looks := false }, kinds := [], alts := [], laidByText := true, laidKinds := [.sentinel], laidTests := true, laidLooks := .later }
def FnAgainGroupMetadataKeyUptoCardSaid : Prop := Claim7.holds Tryd.pinned (.plain (OpenSpec.upto fnAgainGroupMetadataKeySpec)) fnAgainGroupMetadataKeyUptoCard

/-- THE SECOND FORM's CARD OF 'laws.FnCutSASLHandshakeResponse'. -/
def fnCutSASLHandshakeResponseUptoCard : Claim7 := { stood := { row := fnCutSASLHandshakeResponseUptoRow, standIns := [], harness := (true, "85d29c096a926c1035090538cbf9cecb604160919f0dc0bfe5bc7a81753480e1"), looks := false }, kinds := [], alts := [], laidByText := true, laidKinds := [.sentinel], laidTests := true, laidLooks := .later }
def FnCutSASLHandshakeResponseUptoCardSaid : Prop := Claim7.holds Tryd.pinned (.plain (OpenSpec.upto fnCutSASLHandshakeResponseSpec)) fnCutSASLHandshakeResponseUptoCard

/-- THE SECOND FORM's CARD OF 'laws.FnAgainAllocateProducerIDsRequest'. -/
def fnAgainAllocateProducerIDsRequestUptoCard : Claim7 := { stood := { row := fnAgainAllocateProducerIDsRequestUptoRow, standIns := [], harness := (true, "85d29c096a926c1035090538cbf9cecb604160919f0dc0bfe5bc7a81753480e1"), looks := false }, kinds := [], alts := [], laidByText := true, laidKinds := [.sentinel], laidTests := true, laidLooks := .later }
def FnAgainAllocateProducerIDsRequestUptoCardSaid : Prop := Claim7.holds Tryd.pinned (.plain (OpenSpec.upto fnAgainAllocateProducerIDsRequestSpec)) fnAgainAllocateProducerIDsRequestUptoCard

/-- THE SECOND FORM's CARD OF 'laws.FnCutControlledShutdownRequest'. -/
def fnCutControlledShutdownRequestUptoCard : Claim7 := { stood := { row := fnCutControlledShutdownRequestUptoRow, standIns := [], harness := (true, "85d29c096a926c1035090538cbf9cecb604160919f0dc0bfe5bc7a81753480e1"), looks := false }, kinds := [], alts := [], laidByText := true, laidKinds := [.sentinel], laidTests := true, laidLooks := .later }
def FnCutControlledShutdownRequestUptoCardSaid : Prop := Claim7.holds Tryd.pinned (.plain (OpenSpec.upto fnCutControlledShutdownRequestSpec)) fnCutControlledShutdownRequestUptoCard

/-- THE SECOND FORM's CARD OF 'laws.FnAgainRenewDelegationTokenResponse'. -/
def fnAgainRenewDelegationTokenResponseUptoCard : Claim7 := { stood := { row := fnAgainRenewDelegationTokenResponseUptoRow, standIns := [], harness := (true, "85d29c096a926c1035090538cbf9cecb604160919f0dc0bfe5bc7a81753480e1"), looks := false }, kinds := [], alts := [], laidByText := true, laidKinds := [.sentinel], laidTests := true, laidLooks := .later }
def FnAgainRenewDelegationTokenResponseUptoCardSaid : Prop := Claim7.holds Tryd.pinned (.plain (OpenSpec.upto fnAgainRenewDelegationTokenResponseSpec)) fnAgainRenewDelegationTokenResponseUptoCard
end Rows
end Go.Proofs.YtaagmmeanifopaaDoor
