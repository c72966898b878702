/-
  DERIVED. GIVEN WITH THE SEED: THE CARDS: each row of YtlbojjkfjhnaaaaDoorRows.lean that lists a variable, with what it lists TIED to the program's text (the seventh form; the later family's looks); each row that meets fmt, with fmt's text TOLD by the authors' own Lean function (tested against real Go, not proved from fmt's source: count such statements apart). THE CARD IS WHAT COUNTS. Prove the row's statement (the work); the ties are given (YtlbojjkfjhnaaaaDoorTie.lean); close each card by the builder's one call (the guide's Derived/Test/ToyasCard.lean, 'card_holds'). Laid BY PROGRAM, IN A SANDBOX (cutbox-door.mjs). By AI agents, Wed Nov 11 2026. No macro, syntax, notation, axiom, sorry.
-/
import Derived.Test.YtlbojjkfjhnaaaaDoorRows
import GoSem.ClaimSeven
namespace Go.Proofs.YtlbojjkfjhnaaaaDoor
namespace Rows

/-- THE TIED CARD OF 'laws.FnAnyConsumerMemberAssignment'. -/
def fnAnyConsumerMemberAssignmentCard : Claim7 := { stood := { row := fnAnyConsumerMemberAssignmentRow, standIns := [], harness := (true, "cd0d54a989250fcd7dc5c7fe23b2df76e975b451f65ff6d344efc21fe4a4e185"), looks := false }, kinds := [], alts := [], laidByText := true, laidKinds := [.sentinel], laidTests := true, laidLooks := .later }
def FnAnyConsumerMemberAssignmentCardSaid : Prop := Claim7.holds Tryd.pinned (.plain (OpenSpec.ofChange fnAnyConsumerMemberAssignmentSpec)) fnAnyConsumerMemberAssignmentCard

/-- THE TIED CARD OF 'laws.FnCutPushTelemetryRequest'. -/
def fnCutPushTelemetryRequestCard : Claim7 := { stood := { row := fnCutPushTelemetryRequestRow, standIns := [], harness := (true, "cd0d54a989250fcd7dc5c7fe23b2df76e975b451f65ff6d344efc21fe4a4e185"), looks := false }, kinds := [], alts := [], laidByText := true, laidKinds := [.sentinel], laidTests := true, laidLooks := .later }
def FnCutPushTelemetryRequestCardSaid : Prop := Claim7.holds Tryd.pinned (.plain (OpenSpec.ofChange fnCutPushTelemetryRequestSpec)) fnCutPushTelemetryRequestCard

/-- THE TIED CARD OF 'laws.FnAnyUpdateRaftVoterResponse'. -/
def fnAnyUpdateRaftVoterResponseCard : Claim7 := { stood := { row := fnAnyUpdateRaftVoterResponseRow, standIns := [], harness := (true, "cd0d54a989250fcd7dc5c7fe23b2df76e975b451f65ff6d344efc21fe4a4e185"), looks := false }, kinds := [], alts := [], laidByText := true, laidKinds := [.sentinel], laidTests := true, laidLooks := .later }
def FnAnyUpdateRaftVoterResponseCardSaid : Prop := Claim7.holds Tryd.pinned (.plain (OpenSpec.ofChange fnAnyUpdateRaftVoterResponseSpec)) fnAnyUpdateRaftVoterResponseCard

/-- THE TIED CARD OF 'laws.FnAnyBeginQuorumEpochResponse'. -/
def fnAnyBeginQuorumEpochResponseCard : Claim7 := { stood := { row := fnAnyBeginQuorumEpochResponseRow, standIns := [], harness := (true, "cd0d54a989250fcd7dc5c7fe23b2df76e975b451f65ff6d344efc21fe4a4e185"), looks := false }, kinds := [], alts := [], laidByText := true, laidKinds := [.sentinel], laidTests := true, laidLooks := .later }
def FnAnyBeginQuorumEpochResponseCardSaid : Prop := Claim7.holds Tryd.pinned (.plain (OpenSpec.ofChange fnAnyBeginQuorumEpochResponseSpec)) fnAnyBeginQuorumEpochResponseCard

/-- THE SECOND FORM's CARD OF 'laws.FnAnyConsumerMemberAssignment'. -/
def fnAnyConsumerMemberAssignmentUptoCard : Claim7 := { stood := { row := fnAnyConsumerMemberAssignmentUptoRow, standIns := [], harness := (true, "cd0d54a989250fcd7dc5c7fe23b2df76e975b451f65ff6d344efc21fe4a4e185"), looks := false }, kinds := [], alts := [], laidByText := true, laidKinds := [.sentinel], laidTests := true, laidLooks := .later }
def FnAnyConsumerMemberAssignmentUptoCardSaid : Prop := Claim7.holds Tryd.pinned (.plain (OpenSpec.upto fnAnyConsumerMemberAssignmentSpec)) fnAnyConsumerMemberAssignmentUptoCard

/-- THE SECOND FORM's CARD OF 'laws.FnCutPushTelemetryRequest'. -/
def fnCutPushTelemetryRequestUptoCard : Claim7 := { stood := { row := fnCutPushTelemetryRequestUptoRow, standIns := [], harness := (true, "cd0d54a989250fcd7dc5c7fe23b2df76e975b451f65ff6d344efc21fe4a4e185"), looks := false }, kinds := [], alts := [], laidByText := true, laidKinds := [.sentinel], laidTests := true, laidLooks := .later }
def FnCutPushTelemetryRequestUptoCardSaid : Prop := Claim7.holds Tryd.pinned (.plain (OpenSpec.upto fnCutPushTelemetryRequestSpec)) fnCutPushTelemetryRequestUptoCard

/-- THE SECOND FORM's CARD OF 'laws.FnAnyUpdateRaftVoterResponse'. -/
def fnAnyUpdateRaftVoterResponseUptoCard : Claim7 := { stood := { row := fnAnyUpdateRaftVoterResponseUptoRow, standIns := [], harness := (true, "cd0d54a989250fcd7dc5c7fe23b2df76e975b451f65ff6d344efc21fe4a4e185"), looks := false }, kinds := [], alts := [], laidByText := true, laidKinds := [.sentinel], laidTests := true, laidLooks := .later }
def FnAnyUpdateRaftVoterResponseUptoCardSaid : Prop := Claim7.holds Tryd.pinned (.plain (OpenSpec.upto fnAnyUpdateRaftVoterResponseSpec)) fnAnyUpdateRaftVoterResponseUptoCard

/-- THE SECOND FORM's CARD OF 'laws.FnAnyBeginQuorumEpochResponse'. -/
def fnAnyBeginQuorumEpochResponseUptoCard : Claim7 := { stood := { row := fnAnyBeginQuorumEpochResponseUptoRow, standIns := [], harness := (true, "cd0d54a989250fcd7dc5c7fe23b2df76e975b451f65ff6d344efc21fe4a4e185"), looks := false }, kinds := [], alts := [], laidByText := true, laidKinds := [.sentinel], laidTests := true, laidLooks := .later }
def FnAnyBeginQuorumEpochResponseUptoCardSaid : Prop := Claim7.holds Tryd.pinned (.plain (OpenSpec.upto fnAnyBeginQuorumEpochResponseSpec)) fnAnyBeginQuorumEpochResponseUptoCard
end Rows
end Go.Proofs.YtlbojjkfjhnaaaaDoor
