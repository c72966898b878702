/-
  DERIVED. GIVEN WITH THE SEED: THE CARDS: each row of YtfbdfieeoobceaaDoorRows.lean that lists a variable, with what it lists TIED to the program's text (the seventh form; the later family's looks); each row that meets fmt, with fmt's text TOLD by the authors' own Lean function (tested against real Go, not proved from fmt's source: count such statements apart). THE CARD IS WHAT COUNTS. Prove the row's statement (the work); the ties are given (YtfbdfieeoobceaaDoorTie.lean); close each card by the builder's one call (the guide's Derived/Test/ToyasCard.lean, 'card_holds'). Laid BY PROGRAM, IN A SANDBOX (cutbox-door.mjs). By AI agents, Wed Nov 11 2026. No macro, syntax, notation, axiom, sorry.
-/
import Derived.Test.YtfbdfieeoobceaaDoorRows
import GoSem.ClaimSeven
namespace Go.Proofs.YtfbdfieeoobceaaDoor
namespace Rows

/-- THE TIED CARD OF 'laws.FnAnyConsumerMemberAssignment'. -/
def fnAnyConsumerMemberAssignmentCard : Claim7 := { stood := { row := fnAnyConsumerMemberAssignmentRow, standIns := [], harness := (true, "e255b5bafcb8d747226ed80bd930f12e18486a385d3353d298ef084373c0ff49"), looks := false }, kinds := [], alts := [], laidByText := true, laidKinds := [.sentinel], laidTests := true, laidLooks := .later }
def FnAnyConsumerMemberAssignmentCardSaid : Prop := Claim7.holds Tryd.pinned (.plain (OpenSpec.ofChange fnAnyConsumerMemberAssignmentSpec)) fnAnyConsumerMemberAssignmentCard

/-- THE TIED CARD OF 'laws.FnAnyAddOffsetsToTxnResponse'. -/
def fnAnyAddOffsetsToTxnResponseCard : Claim7 := { stood := { row := fnAnyAddOffsetsToTxnResponseRow, standIns := [], harness := (true, "e255b5bafcb8d747226ed80bd930f12e18486a385d3353d298ef084373c0ff49"), looks := false }, kinds := [], alts := [], laidByText := true, laidKinds := [.sentinel], laidTests := true, laidLooks := .later }
def FnAnyAddOffsetsToTxnResponseCardSaid : Prop := Claim7.holds Tryd.pinned (.plain (OpenSpec.ofChange fnAnyAddOffsetsToTxnResponseSpec)) fnAnyAddOffsetsToTxnResponseCard

/-- THE TIED CARD OF 'laws.FnAnyHeartbeatResponse'. -/
def fnAnyHeartbeatResponseCard : Claim7 := { stood := { row := fnAnyHeartbeatResponseRow, standIns := [], harness := (true, "e255b5bafcb8d747226ed80bd930f12e18486a385d3353d298ef084373c0ff49"), looks := false }, kinds := [], alts := [], laidByText := true, laidKinds := [.sentinel], laidTests := true, laidLooks := .later }
def FnAnyHeartbeatResponseCardSaid : Prop := Claim7.holds Tryd.pinned (.plain (OpenSpec.ofChange fnAnyHeartbeatResponseSpec)) fnAnyHeartbeatResponseCard

/-- THE TIED CARD OF 'laws.FnAnyListConfigResourcesRequest'. -/
def fnAnyListConfigResourcesRequestCard : Claim7 := { stood := { row := fnAnyListConfigResourcesRequestRow, standIns := [], harness := (true, "e255b5bafcb8d747226ed80bd930f12e18486a385d3353d298ef084373c0ff49"), looks := false }, kinds := [], alts := [], laidByText := true, laidKinds := [.sentinel], laidTests := true, laidLooks := .later }
def FnAnyListConfigResourcesRequestCardSaid : Prop := Claim7.holds Tryd.pinned (.plain (OpenSpec.ofChange fnAnyListConfigResourcesRequestSpec)) fnAnyListConfigResourcesRequestCard

/-- THE TIED CARD OF 'laws.FnAnyEnvelopeRequest'. -/
def fnAnyEnvelopeRequestCard : Claim7 := { stood := { row := fnAnyEnvelopeRequestRow, standIns := [], harness := (true, "e255b5bafcb8d747226ed80bd930f12e18486a385d3353d298ef084373c0ff49"), looks := false }, kinds := [], alts := [], laidByText := true, laidKinds := [.sentinel], laidTests := true, laidLooks := .later }
def FnAnyEnvelopeRequestCardSaid : Prop := Claim7.holds Tryd.pinned (.plain (OpenSpec.ofChange fnAnyEnvelopeRequestSpec)) fnAnyEnvelopeRequestCard

/-- THE TIED CARD OF 'laws.FnAnyUpdateRaftVoterResponse'. -/
def fnAnyUpdateRaftVoterResponseCard : Claim7 := { stood := { row := fnAnyUpdateRaftVoterResponseRow, standIns := [], harness := (true, "e255b5bafcb8d747226ed80bd930f12e18486a385d3353d298ef084373c0ff49"), looks := false }, kinds := [], alts := [], laidByText := true, laidKinds := [.sentinel], laidTests := true, laidLooks := .later }
def FnAnyUpdateRaftVoterResponseCardSaid : Prop := Claim7.holds Tryd.pinned (.plain (OpenSpec.ofChange fnAnyUpdateRaftVoterResponseSpec)) fnAnyUpdateRaftVoterResponseCard

/-- THE TIED CARD OF 'laws.FnAnyReadShareGroupStateSummaryRequest'. -/
def fnAnyReadShareGroupStateSummaryRequestCard : Claim7 := { stood := { row := fnAnyReadShareGroupStateSummaryRequestRow, standIns := [], harness := (true, "e255b5bafcb8d747226ed80bd930f12e18486a385d3353d298ef084373c0ff49"), looks := false }, kinds := [], alts := [], laidByText := true, laidKinds := [.sentinel], laidTests := true, laidLooks := .later }
def FnAnyReadShareGroupStateSummaryRequestCardSaid : Prop := Claim7.holds Tryd.pinned (.plain (OpenSpec.ofChange fnAnyReadShareGroupStateSummaryRequestSpec)) fnAnyReadShareGroupStateSummaryRequestCard

/-- THE TIED CARD OF 'laws.FnAnyOffsetCommitResponse'. -/
def fnAnyOffsetCommitResponseCard : Claim7 := { stood := { row := fnAnyOffsetCommitResponseRow, standIns := [], harness := (true, "e255b5bafcb8d747226ed80bd930f12e18486a385d3353d298ef084373c0ff49"), looks := false }, kinds := [], alts := [], laidByText := true, laidKinds := [.sentinel], laidTests := true, laidLooks := .later }
def FnAnyOffsetCommitResponseCardSaid : Prop := Claim7.holds Tryd.pinned (.plain (OpenSpec.ofChange fnAnyOffsetCommitResponseSpec)) fnAnyOffsetCommitResponseCard

/-- THE SECOND FORM's CARD OF 'laws.FnAnyConsumerMemberAssignment'. -/
def fnAnyConsumerMemberAssignmentUptoCard : Claim7 := { stood := { row := fnAnyConsumerMemberAssignmentUptoRow, standIns := [], harness := (true, "e255b5bafcb8d747226ed80bd930f12e18486a385d3353d298ef084373c0ff49"), looks := false }, kinds := [], alts := [], laidByText := true, laidKinds := [.sentinel], laidTests := true, laidLooks := .later }
def FnAnyConsumerMemberAssignmentUptoCardSaid : Prop := Claim7.holds Tryd.pinned (.plain (OpenSpec.upto fnAnyConsumerMemberAssignmentSpec)) fnAnyConsumerMemberAssignmentUptoCard

/-- THE SECOND FORM's CARD OF 'laws.FnAnyAddOffsetsToTxnResponse'. -/
def fnAnyAddOffsetsToTxnResponseUptoCard : Claim7 := { stood := { row := fnAnyAddOffsetsToTxnResponseUptoRow, standIns := [], harness := (true, "e255b5bafcb8d747226ed80bd930f12e18486a385d3353d298ef084373c0ff49"), looks := false }, kinds := [], alts := [], laidByText := true, laidKinds := [.sentinel], laidTests := true, laidLooks := .later }
def FnAnyAddOffsetsToTxnResponseUptoCardSaid : Prop := Claim7.holds Tryd.pinned (.plain (OpenSpec.upto fnAnyAddOffsetsToTxnResponseSpec)) fnAnyAddOffsetsToTxnResponseUptoCard

/-- THE SECOND FORM's CARD OF 'laws.FnAnyHeartbeatResponse'. -/
def fnAnyHeartbeatResponseUptoCard : Claim7 := { stood := { row := fnAnyHeartbeatResponseUptoRow, standIns := [], harness := (true, "e255b5bafcb8d747226ed80bd930f12e18486a385d3353d298ef084373c0ff49"), looks := false }, kinds := [], alts := [], laidByText := true, laidKinds := [.sentinel], laidTests := true, laidLooks := .later }
def FnAnyHeartbeatResponseUptoCardSaid : Prop := Claim7.holds Tryd.pinned (.plain (OpenSpec.upto fnAnyHeartbeatResponseSpec)) fnAnyHeartbeatResponseUptoCard

/-- THE SECOND FORM's CARD OF 'laws.FnAnyListConfigResourcesRequest'. -/
def fnAnyListConfigResourcesRequestUptoCard : Claim7 := { stood := { row := fnAnyListConfigResourcesRequestUptoRow, standIns := [], harness := (true, "e255b5bafcb8d747226ed80bd930f12e18486a385d3353d298ef084373c0ff49"), looks := false }, kinds := [], alts := [], laidByText := true, laidKinds := [.sentinel], laidTests := true, laidLooks := .later }
def FnAnyListConfigResourcesRequestUptoCardSaid : Prop := Claim7.holds Tryd.pinned (.plain (OpenSpec.upto fnAnyListConfigResourcesRequestSpec)) fnAnyListConfigResourcesRequestUptoCard

/-- THE SECOND FORM's CARD OF 'laws.FnAnyEnvelopeRequest'. -/
def fnAnyEnvelopeRequestUptoCard : Claim7 := { stood := { row := fnAnyEnvelopeRequestUptoRow, standIns := [], harness := (true, "e255b5bafcb8d747226ed80bd930f12e18486a385d3353d298ef084373c0ff49"), looks := false }, kinds := [], alts := [], laidByText := true, laidKinds := [.sentinel], laidTests := true, laidLooks := .later }
def FnAnyEnvelopeRequestUptoCardSaid : Prop := Claim7.holds Tryd.pinned (.plain (OpenSpec.upto fnAnyEnvelopeRequestSpec)) fnAnyEnvelopeRequestUptoCard

/-- THE SECOND FORM's CARD OF 'laws.FnAnyUpdateRaftVoterResponse'. -/
def fnAnyUpdateRaftVoterResponseUptoCard : Claim7 := { stood := { row := fnAnyUpdateRaftVoterResponseUptoRow, standIns := [], harness := (true, "e255b5bafcb8d747226ed80bd930f12e18486a385d3353d298ef084373c0ff49"), looks := false }, kinds := [], alts := [], laidByText := true, laidKinds := [.sentinel], laidTests := true, laidLooks := .later }
def FnAnyUpdateRaftVoterResponseUptoCardSaid : Prop := Claim7.holds Tryd.pinned (.plain (OpenSpec.upto fnAnyUpdateRaftVoterResponseSpec)) fnAnyUpdateRaftVoterResponseUptoCard

/-- THE SECOND FORM's CARD OF 'laws.FnAnyReadShareGroupStateSummaryRequest'. -/
def fnAnyReadShareGroupStateSummaryRequestUptoCard : Claim7 := { stood := { row := fnAnyReadShareGroupStateSummaryRequestUptoRow, standIns := [], harness := (true, "e255b5bafcb8d747226ed80bd930f12e18486a385d3353d298ef084373c0ff49"), looks := false }, kinds := [], alts := [], laidByText := true, laidKinds := [.sentinel], laidTests := true, laidLooks := .later }
def FnAnyReadShareGroupStateSummaryRequestUptoCardSaid : Prop := Claim7.holds Tryd.pinned (.plain (OpenSpec.upto fnAnyReadShareGroupStateSummaryRequestSpec)) fnAnyReadShareGroupStateSummaryRequestUptoCard

/-- THE SECOND FORM's CARD OF 'laws.FnAnyOffsetCommitResponse'. -/
def fnAnyOffsetCommitResponseUptoCard : Claim7 := { stood := { row := fnAnyOffsetCommitResponseUptoRow, standIns := [], harness := (true, "e255b5bafcb8d747226ed80bd930f12e18486a385d3353d298ef084373c0ff49"), looks := false }, kinds := [], alts := [], laidByText := true, laidKinds := [.sentinel], laidTests := true, laidLooks := .later }
def FnAnyOffsetCommitResponseUptoCardSaid : Prop := Claim7.holds Tryd.pinned (.plain (OpenSpec.upto fnAnyOffsetCommitResponseSpec)) fnAnyOffsetCommitResponseUptoCard
end Rows
end Go.Proofs.YtfbdfieeoobceaaDoor
