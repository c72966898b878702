/-
  DERIVED. GIVEN WITH THE SEED: THE CARDS: each row of YtilojmciknccgabGreatDoorRows.lean that lists a variable, with what it lists TIED to the program's text (the seventh form; the later family's looks); each row that meets fmt, with fmt's text TOLD by the authors' own Lean function (tested against real Go, not proved from fmt's source: count such statements apart). THE CARD IS WHAT COUNTS. Prove the row's statement (the work); the ties are given (YtilojmciknccgabGreatDoorTie.lean); close each card by the builder's one call (the guide's Derived/Test/ToyasCard.lean, 'card_holds'). Laid BY PROGRAM, IN A SANDBOX (cutbox-door.mjs). By AI agents, Wed Nov 11 2026. No macro, syntax, notation, axiom, sorry.
-/
import Derived.Test.YtilojmciknccgabGreatDoorRows
import GoSem.ClaimSeven
namespace Go.Proofs.YtilojmciknccgabGreatDoor
namespace Rows

/-- THE TIED CARD OF 'laws.FnCutDescribeClientQuotasRequest'. -/
def fnCutDescribeClientQuotasRequestCard : Claim7 := { stood := { row := fnCutDescribeClientQuotasRequestRow, standIns := [], harness := (true, "e285dda29038e71d986c5630cef256ff8c66530ecf3646a95ed8347e62585820"), looks := false }, kinds := [], alts := [], laidByText := true, laidKinds := [.sentinel], laidTests := true, laidLooks := .later }
def FnCutDescribeClientQuotasRequestCardSaid : Prop := Claim7.holds Tryz.pinned (.plain (OpenSpec.ofChange fnCutDescribeClientQuotasRequestSpec)) fnCutDescribeClientQuotasRequestCard

/-- THE TIED CARD OF 'laws.FnCutListTransactionsResponse'. -/
def fnCutListTransactionsResponseCard : Claim7 := { stood := { row := fnCutListTransactionsResponseRow, standIns := [], harness := (true, "e285dda29038e71d986c5630cef256ff8c66530ecf3646a95ed8347e62585820"), looks := false }, kinds := [], alts := [], laidByText := true, laidKinds := [.sentinel], laidTests := true, laidLooks := .later }
def FnCutListTransactionsResponseCardSaid : Prop := Claim7.holds Tryz.pinned (.plain (OpenSpec.ofChange fnCutListTransactionsResponseSpec)) fnCutListTransactionsResponseCard

/-- THE TIED CARD OF 'laws.FnAgainListOffsetsResponse'. -/
def fnAgainListOffsetsResponseCard : Claim7 := { stood := { row := fnAgainListOffsetsResponseRow, standIns := [], harness := (true, "e285dda29038e71d986c5630cef256ff8c66530ecf3646a95ed8347e62585820"), looks := false }, kinds := [], alts := [], laidByText := true, laidKinds := [.sentinel], laidTests := true, laidLooks := .later }
def FnAgainListOffsetsResponseCardSaid : Prop := Claim7.holds Tryz.pinned (.plain (OpenSpec.ofChange fnAgainListOffsetsResponseSpec)) fnAgainListOffsetsResponseCard

/-- THE TIED CARD OF 'laws.FnAgainWriteTxnMarkersRequest'. -/
def fnAgainWriteTxnMarkersRequestCard : Claim7 := { stood := { row := fnAgainWriteTxnMarkersRequestRow, standIns := [], harness := (true, "e285dda29038e71d986c5630cef256ff8c66530ecf3646a95ed8347e62585820"), looks := false }, kinds := [], alts := [], laidByText := true, laidKinds := [.sentinel], laidTests := true, laidLooks := .later }
def FnAgainWriteTxnMarkersRequestCardSaid : Prop := Claim7.holds Tryz.pinned (.plain (OpenSpec.ofChange fnAgainWriteTxnMarkersRequestSpec)) fnAgainWriteTxnMarkersRequestCard

/-- THE TIED CARD OF 'laws.FnAgainAlterShareGroupOffsetsResponse'. -/
def fnAgainAlterShareGroupOffsetsResponseCard : Claim7 := { stood := { row := fnAgainAlterShareGroupOffsetsResponseRow, standIns := [], harness := (true, "e285dda29038e71d986c5630cef256ff8c66530ecf3646a95ed8347e62585820"), looks := false }, kinds := [], alts := [], laidByText := true, laidKinds := [.sentinel], laidTests := true, laidLooks := .later }
def FnAgainAlterShareGroupOffsetsResponseCardSaid : Prop := Claim7.holds Tryz.pinned (.plain (OpenSpec.ofChange fnAgainAlterShareGroupOffsetsResponseSpec)) fnAgainAlterShareGroupOffsetsResponseCard

/-- THE TIED CARD OF 'laws.FnCutAlterConfigsRequest'. -/
def fnCutAlterConfigsRequestCard : Claim7 := { stood := { row := fnCutAlterConfigsRequestRow, standIns := [], harness := (true, "e285dda29038e71d986c5630cef256ff8c66530ecf3646a95ed8347e62585820"), looks := false }, kinds := [], alts := [], laidByText := true, laidKinds := [.sentinel], laidTests := true, laidLooks := .later }
def FnCutAlterConfigsRequestCardSaid : Prop := Claim7.holds Tryz.pinned (.plain (OpenSpec.ofChange fnCutAlterConfigsRequestSpec)) fnCutAlterConfigsRequestCard

/-- THE TIED CARD OF 'laws.FnAgainStopReplicaRequest'. -/
def fnAgainStopReplicaRequestCard : Claim7 := { stood := { row := fnAgainStopReplicaRequestRow, standIns := [], harness := (true, "e285dda29038e71d986c5630cef256ff8c66530ecf3646a95ed8347e62585820"), looks := false }, kinds := [], alts := [], laidByText := true, laidKinds := [.sentinel], laidTests := true, laidLooks := .later }
def FnAgainStopReplicaRequestCardSaid : Prop := Claim7.holds Tryz.pinned (.plain (OpenSpec.ofChange fnAgainStopReplicaRequestSpec)) fnAgainStopReplicaRequestCard

/-- THE TIED CARD OF 'laws.FnCutFindCoordinatorResponse'. -/
def fnCutFindCoordinatorResponseCard : Claim7 := { stood := { row := fnCutFindCoordinatorResponseRow, standIns := [], harness := (true, "e285dda29038e71d986c5630cef256ff8c66530ecf3646a95ed8347e62585820"), looks := false }, kinds := [], alts := [], laidByText := true, laidKinds := [.sentinel], laidTests := true, laidLooks := .later }
def FnCutFindCoordinatorResponseCardSaid : Prop := Claim7.holds Tryz.pinned (.plain (OpenSpec.ofChange fnCutFindCoordinatorResponseSpec)) fnCutFindCoordinatorResponseCard

/-- THE TIED CARD OF 'laws.FnCutDescribeProducersResponse'. -/
def fnCutDescribeProducersResponseCard : Claim7 := { stood := { row := fnCutDescribeProducersResponseRow, standIns := [], harness := (true, "e285dda29038e71d986c5630cef256ff8c66530ecf3646a95ed8347e62585820"), looks := false }, kinds := [], alts := [], laidByText := true, laidKinds := [.sentinel], laidTests := true, laidLooks := .later }
def FnCutDescribeProducersResponseCardSaid : Prop := Claim7.holds Tryz.pinned (.plain (OpenSpec.ofChange fnCutDescribeProducersResponseSpec)) fnCutDescribeProducersResponseCard

/-- THE SECOND FORM's CARD OF 'laws.FnCutDescribeClientQuotasRequest'. -/
def fnCutDescribeClientQuotasRequestUptoCard : Claim7 := { stood := { row := fnCutDescribeClientQuotasRequestUptoRow, standIns := [], harness := (true, "e285dda29038e71d986c5630cef256ff8c66530ecf3646a95ed8347e62585820"), looks := false }, kinds := [], alts := [], laidByText := true, laidKinds := [.sentinel], laidTests := true, laidLooks := .later }
def FnCutDescribeClientQuotasRequestUptoCardSaid : Prop := Claim7.holds Tryz.pinned (.plain (OpenSpec.upto fnCutDescribeClientQuotasRequestSpec)) fnCutDescribeClientQuotasRequestUptoCard

/-- THE SECOND FORM's CARD OF 'laws.FnCutListTransactionsResponse'. -/
def fnCutListTransactionsResponseUptoCard : Claim7 := { stood := { row := fnCutListTransactionsResponseUptoRow, standIns := [], harness := (true, "e285dda29038e71d986c5630cef256ff8c66530ecf3646a95ed8347e62585820"), looks := false }, kinds := [], alts := [], laidByText := true, laidKinds := [.sentinel], laidTests := true, laidLooks := .later }
def FnCutListTransactionsResponseUptoCardSaid : Prop := Claim7.holds Tryz.pinned (.plain (OpenSpec.upto fnCutListTransactionsResponseSpec)) fnCutListTransactionsResponseUptoCard

/-- THE SECOND FORM's CARD OF 'laws.FnAgainListOffsetsResponse'. -/
def fnAgainListOffsetsResponseUptoCard : Claim7 := { stood := { row := fnAgainListOffsetsResponseUptoRow, standIns := [], harness := (true, "e285dda29038e71d986c5630cef256ff8c66530ecf3646a95ed8347e62585820"), looks := false }, kinds := [], alts := [], laidByText := true, laidKinds := [.sentinel], laidTests := true, laidLooks := .later }
def FnAgainListOffsetsResponseUptoCardSaid : Prop := Claim7.holds Tryz.pinned (.plain (OpenSpec.upto fnAgainListOffsetsResponseSpec)) fnAgainListOffsetsResponseUptoCard

/-- THE SECOND FORM's CARD OF 'laws.FnAgainWriteTxnMarkersRequest'. -/
def fnAgainWriteTxnMarkersRequestUptoCard : Claim7 := { stood := { row := fnAgainWriteTxnMarkersRequestUptoRow, standIns := [], harness := (true, "e285dda29038e71d986c5630cef256ff8c66530ecf3646a95ed8347e62585820"), looks := false }, kinds := [], alts := [], laidByText := true, laidKinds := [.sentinel], laidTests := true, laidLooks := .later }
def FnAgainWriteTxnMarkersRequestUptoCardSaid : Prop := Claim7.holds Tryz.pinned (.plain (OpenSpec.upto fnAgainWriteTxnMarkersRequestSpec)) fnAgainWriteTxnMarkersRequestUptoCard

/-- THE SECOND FORM's CARD OF 'laws.FnAgainAlterShareGroupOffsetsResponse'. -/
def fnAgainAlterShareGroupOffsetsResponseUptoCard : Claim7 := { stood := { row := fnAgainAlterShareGroupOffsetsResponseUptoRow, standIns := [], harness := (true, "e285dda29038e71d986c5630cef256ff8c66530ecf3646a95ed8347e62585820"), looks := false }, kinds := [], alts := [], laidByText := true, laidKinds := [.sentinel], laidTests := true, laidLooks := .later }
def FnAgainAlterShareGroupOffsetsResponseUptoCardSaid : Prop := Claim7.holds Tryz.pinned (.plain (OpenSpec.upto fnAgainAlterShareGroupOffsetsResponseSpec)) fnAgainAlterShareGroupOffsetsResponseUptoCard

/-- THE SECOND FORM's CARD OF 'laws.FnCutAlterConfigsRequest'. -/
def fnCutAlterConfigsRequestUptoCard : Claim7 := { stood := { row := fnCutAlterConfigsRequestUptoRow, standIns := [], harness := (true, "e285dda29038e71d986c5630cef256ff8c66530ecf3646a95ed8347e62585820"), looks := false }, kinds := [], alts := [], laidByText := true, laidKinds := [.sentinel], laidTests := true, laidLooks := .later }
def FnCutAlterConfigsRequestUptoCardSaid : Prop := Claim7.holds Tryz.pinned (.plain (OpenSpec.upto fnCutAlterConfigsRequestSpec)) fnCutAlterConfigsRequestUptoCard

/-- THE SECOND FORM's CARD OF 'laws.FnAgainStopReplicaRequest'. -/
def fnAgainStopReplicaRequestUptoCard : Claim7 := { stood := { row := fnAgainStopReplicaRequestUptoRow, standIns := [], harness := (true, "e285dda29038e71d986c5630cef256ff8c66530ecf3646a95ed8347e62585820"), looks := false }, kinds := [], alts := [], laidByText := true, laidKinds := [.sentinel], laidTests := true, laidLooks := .later }
def FnAgainStopReplicaRequestUptoCardSaid : Prop := Claim7.holds Tryz.pinned (.plain (OpenSpec.upto fnAgainStopReplicaRequestSpec)) fnAgainStopReplicaRequestUptoCard

/-- THE SECOND FORM's CARD OF 'laws.FnCutFindCoordinatorResponse'. -/
def fnCutFindCoordinatorResponseUptoCard : Claim7 := { stood := { row := fnCutFindCoordinatorResponseUptoRow, standIns := [], harness := (true, "e285dda29038e71d986c5630cef256ff8c66530ecf3646a95ed8347e62585820"), looks := false }, kinds := [], alts := [], laidByText := true, laidKinds := [.sentinel], laidTests := true, laidLooks := .later }
def FnCutFindCoordinatorResponseUptoCardSaid : Prop := Claim7.holds Tryz.pinned (.plain (OpenSpec.upto fnCutFindCoordinatorResponseSpec)) fnCutFindCoordinatorResponseUptoCard

/-- THE SECOND FORM's CARD OF 'laws.FnCutDescribeProducersResponse'. -/
def fnCutDescribeProducersResponseUptoCard : Claim7 := { stood := { row := fnCutDescribeProducersResponseUptoRow, standIns := [], harness := (true, "e285dda29038e71d986c5630cef256ff8c66530ecf3646a95ed8347e62585820"), looks := false }, kinds := [], alts := [], laidByText := true, laidKinds := [.sentinel], laidTests := true, laidLooks := .later }
def FnCutDescribeProducersResponseUptoCardSaid : Prop := Claim7.holds Tryz.pinned (.plain (OpenSpec.upto fnCutDescribeProducersResponseSpec)) fnCutDescribeProducersResponseUptoCard
end Rows
end Go.Proofs.YtilojmciknccgabGreatDoor
