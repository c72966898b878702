/-
  DERIVED. GIVEN WITH THE SEED: THE CARDS: each row of YtlbojjkfjhnaaaaGreatDoorRows.lean that lists a variable, with what it lists TIED to the program's text (the seventh form; the later family's looks); each row that meets fmt, with fmt's text TOLD by the authors' own Lean function (tested against real Go, not proved from fmt's source: count such statements apart). THE CARD IS WHAT COUNTS. Prove the row's statement (the work); the ties are given (YtlbojjkfjhnaaaaGreatDoorTie.lean); close each card by the builder's one call (the guide's Derived/Test/ToyasCard.lean, 'card_holds'). Laid BY PROGRAM, IN A SANDBOX (cutbox-door.mjs). By AI agents, Wed Nov 11 2026. No macro, syntax, notation, axiom, sorry.
-/
import Derived.Test.YtlbojjkfjhnaaaaGreatDoorRows
import GoSem.ClaimSeven
namespace Go.Proofs.YtlbojjkfjhnaaaaGreatDoor
namespace Rows

/-- THE TIED CARD OF 'laws.FnCutOffsetCommitValue'. -/
def fnCutOffsetCommitValueCard : Claim7 := { stood := { row := fnCutOffsetCommitValueRow, standIns := [], harness := (true, "f0c661a2a083e2d8f090539c26fc314ec3ab7cafee4fe3973f86b558c0048d2a"), looks := false }, kinds := [], alts := [], laidByText := true, laidKinds := [.sentinel], laidTests := true, laidLooks := .later }
def FnCutOffsetCommitValueCardSaid : Prop := Claim7.holds Tryz.pinned (.plain (OpenSpec.ofChange fnCutOffsetCommitValueSpec)) fnCutOffsetCommitValueCard

/-- THE TIED CARD OF 'laws.FnCutDeleteACLsResponse'. -/
def fnCutDeleteACLsResponseCard : Claim7 := { stood := { row := fnCutDeleteACLsResponseRow, standIns := [], harness := (true, "f0c661a2a083e2d8f090539c26fc314ec3ab7cafee4fe3973f86b558c0048d2a"), looks := false }, kinds := [], alts := [], laidByText := true, laidKinds := [.sentinel], laidTests := true, laidLooks := .later }
def FnCutDeleteACLsResponseCardSaid : Prop := Claim7.holds Tryz.pinned (.plain (OpenSpec.ofChange fnCutDeleteACLsResponseSpec)) fnCutDeleteACLsResponseCard

/-- THE TIED CARD OF 'laws.FnCutApiVersionsResponse'. -/
def fnCutApiVersionsResponseCard : Claim7 := { stood := { row := fnCutApiVersionsResponseRow, standIns := [], harness := (true, "f0c661a2a083e2d8f090539c26fc314ec3ab7cafee4fe3973f86b558c0048d2a"), looks := false }, kinds := [], alts := [], laidByText := true, laidKinds := [.sentinel], laidTests := true, laidLooks := .later }
def FnCutApiVersionsResponseCardSaid : Prop := Claim7.holds Tryz.pinned (.plain (OpenSpec.ofChange fnCutApiVersionsResponseSpec)) fnCutApiVersionsResponseCard

/-- THE TIED CARD OF 'laws.FnCutEndQuorumEpochRequest'. -/
def fnCutEndQuorumEpochRequestCard : Claim7 := { stood := { row := fnCutEndQuorumEpochRequestRow, standIns := [], harness := (true, "f0c661a2a083e2d8f090539c26fc314ec3ab7cafee4fe3973f86b558c0048d2a"), looks := false }, kinds := [], alts := [], laidByText := true, laidKinds := [.sentinel], laidTests := true, laidLooks := .later }
def FnCutEndQuorumEpochRequestCardSaid : Prop := Claim7.holds Tryz.pinned (.plain (OpenSpec.ofChange fnCutEndQuorumEpochRequestSpec)) fnCutEndQuorumEpochRequestCard

/-- THE TIED CARD OF 'laws.FnAgainDescribeGroupsResponse'. -/
def fnAgainDescribeGroupsResponseCard : Claim7 := { stood := { row := fnAgainDescribeGroupsResponseRow, standIns := [], harness := (true, "f0c661a2a083e2d8f090539c26fc314ec3ab7cafee4fe3973f86b558c0048d2a"), looks := false }, kinds := [], alts := [], laidByText := true, laidKinds := [.sentinel], laidTests := true, laidLooks := .later }
def FnAgainDescribeGroupsResponseCardSaid : Prop := Claim7.holds Tryz.pinned (.plain (OpenSpec.ofChange fnAgainDescribeGroupsResponseSpec)) fnAgainDescribeGroupsResponseCard

/-- THE TIED CARD OF 'laws.FnAnyShareFetchResponse'. -/
def fnAnyShareFetchResponseCard : Claim7 := { stood := { row := fnAnyShareFetchResponseRow, standIns := [], harness := (true, "f0c661a2a083e2d8f090539c26fc314ec3ab7cafee4fe3973f86b558c0048d2a"), looks := false }, kinds := [], alts := [], laidByText := true, laidKinds := [.sentinel], laidTests := true, laidLooks := .later }
def FnAnyShareFetchResponseCardSaid : Prop := Claim7.holds Tryz.pinned (.plain (OpenSpec.ofChange fnAnyShareFetchResponseSpec)) fnAnyShareFetchResponseCard

/-- THE SECOND FORM's CARD OF 'laws.FnCutOffsetCommitValue'. -/
def fnCutOffsetCommitValueUptoCard : Claim7 := { stood := { row := fnCutOffsetCommitValueUptoRow, standIns := [], harness := (true, "f0c661a2a083e2d8f090539c26fc314ec3ab7cafee4fe3973f86b558c0048d2a"), looks := false }, kinds := [], alts := [], laidByText := true, laidKinds := [.sentinel], laidTests := true, laidLooks := .later }
def FnCutOffsetCommitValueUptoCardSaid : Prop := Claim7.holds Tryz.pinned (.plain (OpenSpec.upto fnCutOffsetCommitValueSpec)) fnCutOffsetCommitValueUptoCard

/-- THE SECOND FORM's CARD OF 'laws.FnCutDeleteACLsResponse'. -/
def fnCutDeleteACLsResponseUptoCard : Claim7 := { stood := { row := fnCutDeleteACLsResponseUptoRow, standIns := [], harness := (true, "f0c661a2a083e2d8f090539c26fc314ec3ab7cafee4fe3973f86b558c0048d2a"), looks := false }, kinds := [], alts := [], laidByText := true, laidKinds := [.sentinel], laidTests := true, laidLooks := .later }
def FnCutDeleteACLsResponseUptoCardSaid : Prop := Claim7.holds Tryz.pinned (.plain (OpenSpec.upto fnCutDeleteACLsResponseSpec)) fnCutDeleteACLsResponseUptoCard

/-- THE SECOND FORM's CARD OF 'laws.FnCutApiVersionsResponse'. -/
def fnCutApiVersionsResponseUptoCard : Claim7 := { stood := { row := fnCutApiVersionsResponseUptoRow, standIns := [], harness := (true, "f0c661a2a083e2d8f090539c26fc314ec3ab7cafee4fe3973f86b558c0048d2a"), looks := false }, kinds := [], alts := [], laidByText := true, laidKinds := [.sentinel], laidTests := true, laidLooks := .later }
def FnCutApiVersionsResponseUptoCardSaid : Prop := Claim7.holds Tryz.pinned (.plain (OpenSpec.upto fnCutApiVersionsResponseSpec)) fnCutApiVersionsResponseUptoCard

/-- THE SECOND FORM's CARD OF 'laws.FnCutEndQuorumEpochRequest'. -/
def fnCutEndQuorumEpochRequestUptoCard : Claim7 := { stood := { row := fnCutEndQuorumEpochRequestUptoRow, standIns := [], harness := (true, "f0c661a2a083e2d8f090539c26fc314ec3ab7cafee4fe3973f86b558c0048d2a"), looks := false }, kinds := [], alts := [], laidByText := true, laidKinds := [.sentinel], laidTests := true, laidLooks := .later }
def FnCutEndQuorumEpochRequestUptoCardSaid : Prop := Claim7.holds Tryz.pinned (.plain (OpenSpec.upto fnCutEndQuorumEpochRequestSpec)) fnCutEndQuorumEpochRequestUptoCard

/-- THE SECOND FORM's CARD OF 'laws.FnAgainDescribeGroupsResponse'. -/
def fnAgainDescribeGroupsResponseUptoCard : Claim7 := { stood := { row := fnAgainDescribeGroupsResponseUptoRow, standIns := [], harness := (true, "f0c661a2a083e2d8f090539c26fc314ec3ab7cafee4fe3973f86b558c0048d2a"), looks := false }, kinds := [], alts := [], laidByText := true, laidKinds := [.sentinel], laidTests := true, laidLooks := .later }
def FnAgainDescribeGroupsResponseUptoCardSaid : Prop := Claim7.holds Tryz.pinned (.plain (OpenSpec.upto fnAgainDescribeGroupsResponseSpec)) fnAgainDescribeGroupsResponseUptoCard

/-- THE SECOND FORM's CARD OF 'laws.FnAnyShareFetchResponse'. -/
def fnAnyShareFetchResponseUptoCard : Claim7 := { stood := { row := fnAnyShareFetchResponseUptoRow, standIns := [], harness := (true, "f0c661a2a083e2d8f090539c26fc314ec3ab7cafee4fe3973f86b558c0048d2a"), looks := false }, kinds := [], alts := [], laidByText := true, laidKinds := [.sentinel], laidTests := true, laidLooks := .later }
def FnAnyShareFetchResponseUptoCardSaid : Prop := Claim7.holds Tryz.pinned (.plain (OpenSpec.upto fnAnyShareFetchResponseSpec)) fnAnyShareFetchResponseUptoCard
end Rows
end Go.Proofs.YtlbojjkfjhnaaaaGreatDoor
