/-
  DERIVED. GIVEN WITH THE SEED: THE CARDS: each row of YtaagmmeanifopaaGreatDoorRows.lean that lists a variable, with what it lists TIED to the program's text (the seventh form; the later family's looks); each row that meets fmt, with fmt's text TOLD by the authors' own Lean function (tested against real Go, not proved from fmt's source: count such statements apart). THE CARD IS WHAT COUNTS. Prove the row's statement (the work); the ties are given (YtaagmmeanifopaaGreatDoorTie.lean); close each card by the builder's one call (the guide's Derived/Test/ToyasCard.lean, 'card_holds'). Laid BY PROGRAM, IN A SANDBOX (cutbox-door.mjs). By AI agents, Wed Nov 11 2026. No macro, syntax, notation, axiom, sorry.
-/
import Derived.Test.YtaagmmeanifopaaGreatDoorRows
import GoSem.ClaimSeven
namespace Go.Proofs.YtaagmmeanifopaaGreatDoor
namespace Rows

/-- THE TIED CARD OF 'laws.FnAgainUnregisterBrokerResponse'. -/
def fnAgainUnregisterBrokerResponseCard : Claim7 := { stood := { row := fnAgainUnregisterBrokerResponseRow, standIns := [], harness := (true, "8e60a9896e27ec4d7a0eac82bb3a21b700acfc1c3086f1327cb44b0a853e71bb"), looks := false }, kinds := [], alts := [], laidByText := true, laidKinds := [.sentinel], laidTests := true, laidLooks := .later }
def FnAgainUnregisterBrokerResponseCardSaid : Prop := Claim7.holds Tryz.pinned (.plain (OpenSpec.ofChange fnAgainUnregisterBrokerResponseSpec)) fnAgainUnregisterBrokerResponseCard

/-- THE TIED CARD OF 'laws.FnAgainConsumerGroupDescribeRequest'. -/
def fnAgainConsumerGroupDescribeRequestCard : Claim7 := { stood := { row := fnAgainConsumerGroupDescribeRequestRow, standIns := [], harness := (true, "8e60a9896e27ec4d7a0eac82bb3a21b700acfc1c3086f1327cb44b0a853e71bb"), looks := false }, kinds := [], alts := [], laidByText := true, laidKinds := [.sentinel], laidTests := true, laidLooks := .later }
def FnAgainConsumerGroupDescribeRequestCardSaid : Prop := Claim7.holds Tryz.pinned (.plain (OpenSpec.ofChange fnAgainConsumerGroupDescribeRequestSpec)) fnAgainConsumerGroupDescribeRequestCard

/-- THE TIED CARD OF 'laws.FnAgainDescribeUserSCRAMCredentialsRequest'. -/
def fnAgainDescribeUserSCRAMCredentialsRequestCard : Claim7 := { stood := { row := fnAgainDescribeUserSCRAMCredentialsRequestRow, standIns := [], harness := (true, "8e60a9896e27ec4d7a0eac82bb3a21b700acfc1c3086f1327cb44b0a853e71bb"), looks := false }, kinds := [], alts := [], laidByText := true, laidKinds := [.sentinel], laidTests := true, laidLooks := .later }
def FnAgainDescribeUserSCRAMCredentialsRequestCardSaid : Prop := Claim7.holds Tryz.pinned (.plain (OpenSpec.ofChange fnAgainDescribeUserSCRAMCredentialsRequestSpec)) fnAgainDescribeUserSCRAMCredentialsRequestCard

/-- THE SECOND FORM's CARD OF 'laws.FnAgainUnregisterBrokerResponse'. -/
def fnAgainUnregisterBrokerResponseUptoCard : Claim7 := { stood := { row := fnAgainUnregisterBrokerResponseUptoRow, standIns := [], harness := (true, "8e60a9896e27ec4d7a0eac82bb3a21b700acfc1c3086f1327cb44b0a853e71bb"), looks := false }, kinds := [], alts := [], laidByText := true, laidKinds := [.sentinel], laidTests := true, laidLooks := .later }
def FnAgainUnregisterBrokerResponseUptoCardSaid : Prop := Claim7.holds Tryz.pinned (.plain (OpenSpec.upto fnAgainUnregisterBrokerResponseSpec)) fnAgainUnregisterBrokerResponseUptoCard

/-- THE SECOND FORM's CARD OF 'laws.FnAgainConsumerGroupDescribeRequest'. -/
def fnAgainConsumerGroupDescribeRequestUptoCard : Claim7 := { stood := { row := fnAgainConsumerGroupDescribeRequestUptoRow, standIns := [], harness := (true, "8e60a9896e27ec4d7a0eac82bb3a21b700acfc1c3086f1327cb44b0a853e71bb"), looks := false }, kinds := [], alts := [], laidByText := true, laidKinds := [.sentinel], laidTests := true, laidLooks := .later }
def FnAgainConsumerGroupDescribeRequestUptoCardSaid : Prop := Claim7.holds Tryz.pinned (.plain (OpenSpec.upto fnAgainConsumerGroupDescribeRequestSpec)) fnAgainConsumerGroupDescribeRequestUptoCard

/-- THE SECOND FORM's CARD OF 'laws.FnAgainDescribeUserSCRAMCredentialsRequest'. -/
def fnAgainDescribeUserSCRAMCredentialsRequestUptoCard : Claim7 := { stood := { row := fnAgainDescribeUserSCRAMCredentialsRequestUptoRow, standIns := [], harness := (true, "8e60a9896e27ec4d7a0eac82bb3a21b700acfc1c3086f1327cb44b0a853e71bb"), looks := false }, kinds := [], alts := [], laidByText := true, laidKinds := [.sentinel], laidTests := true, laidLooks := .later }
def FnAgainDescribeUserSCRAMCredentialsRequestUptoCardSaid : Prop := Claim7.holds Tryz.pinned (.plain (OpenSpec.upto fnAgainDescribeUserSCRAMCredentialsRequestSpec)) fnAgainDescribeUserSCRAMCredentialsRequestUptoCard
end Rows
end Go.Proofs.YtaagmmeanifopaaGreatDoor
