/-
  DERIVED. GIVEN WITH THE SEED: THE CARDS: each row of YtilojmciknccgaaGreatDoorRRRows.lean that lists a variable, with what it lists TIED to the program's text (the seventh form; the later family's looks); each row that meets fmt, with fmt's text TOLD by the authors' own Lean function (tested against real Go, not proved from fmt's source: count such statements apart). THE CARD IS WHAT COUNTS. Prove the row's statement (the work); the ties are given (YtilojmciknccgaaGreatDoorRRTie.lean); close each card by the builder's one call (the guide's Derived/Test/ToyasCard.lean, 'card_holds'). Laid BY PROGRAM, IN A SANDBOX (cutbox-door.mjs). By AI agents, Wed Nov 11 2026. No macro, syntax, notation, axiom, sorry.
-/
import Derived.Test.YtilojmciknccgaaGreatDoorRRRows
import GoSem.ClaimSeven
namespace Go.Proofs.YtilojmciknccgaaGreatDoorRR
namespace Rows

/-- THE TIED CARD OF 'laws.FnCutOffsetCommitValue'. -/
def fnCutOffsetCommitValueCard : Claim7 := { stood := { row := fnCutOffsetCommitValueRow, standIns := [], harness := (true, "61d2ef922d19cddc9cabf2eb4106c32f29ea2481b2d8ae7d3af275f8ed330ebe"), looks := false }, kinds := [], alts := [], laidByText := true, laidKinds := [.sentinel], laidTests := true, laidLooks := .later }
def FnCutOffsetCommitValueCardSaid : Prop := Claim7.holds Tryz.pinned (.plain (OpenSpec.ofChange fnCutOffsetCommitValueSpec)) fnCutOffsetCommitValueCard

/-- THE TIED CARD OF 'laws.FnAgainOffsetForLeaderEpochRequest'. -/
def fnAgainOffsetForLeaderEpochRequestCard : Claim7 := { stood := { row := fnAgainOffsetForLeaderEpochRequestRow, standIns := [], harness := (true, "61d2ef922d19cddc9cabf2eb4106c32f29ea2481b2d8ae7d3af275f8ed330ebe"), looks := false }, kinds := [], alts := [], laidByText := true, laidKinds := [.sentinel], laidTests := true, laidLooks := .later }
def FnAgainOffsetForLeaderEpochRequestCardSaid : Prop := Claim7.holds Tryz.pinned (.plain (OpenSpec.ofChange fnAgainOffsetForLeaderEpochRequestSpec)) fnAgainOffsetForLeaderEpochRequestCard

/-- THE TIED CARD OF 'laws.FnAgainCreatePartitionsResponse'. -/
def fnAgainCreatePartitionsResponseCard : Claim7 := { stood := { row := fnAgainCreatePartitionsResponseRow, standIns := [], harness := (true, "61d2ef922d19cddc9cabf2eb4106c32f29ea2481b2d8ae7d3af275f8ed330ebe"), looks := false }, kinds := [], alts := [], laidByText := true, laidKinds := [.sentinel], laidTests := true, laidLooks := .later }
def FnAgainCreatePartitionsResponseCardSaid : Prop := Claim7.holds Tryz.pinned (.plain (OpenSpec.ofChange fnAgainCreatePartitionsResponseSpec)) fnAgainCreatePartitionsResponseCard

/-- THE TIED CARD OF 'laws.FnAgainInitializeShareGroupStateRequest'. -/
def fnAgainInitializeShareGroupStateRequestCard : Claim7 := { stood := { row := fnAgainInitializeShareGroupStateRequestRow, standIns := [], harness := (true, "61d2ef922d19cddc9cabf2eb4106c32f29ea2481b2d8ae7d3af275f8ed330ebe"), looks := false }, kinds := [], alts := [], laidByText := true, laidKinds := [.sentinel], laidTests := true, laidLooks := .later }
def FnAgainInitializeShareGroupStateRequestCardSaid : Prop := Claim7.holds Tryz.pinned (.plain (OpenSpec.ofChange fnAgainInitializeShareGroupStateRequestSpec)) fnAgainInitializeShareGroupStateRequestCard

/-- THE TIED CARD OF 'laws.FnCutUpdateFeaturesResponse'. -/
def fnCutUpdateFeaturesResponseCard : Claim7 := { stood := { row := fnCutUpdateFeaturesResponseRow, standIns := [], harness := (true, "61d2ef922d19cddc9cabf2eb4106c32f29ea2481b2d8ae7d3af275f8ed330ebe"), looks := false }, kinds := [], alts := [], laidByText := true, laidKinds := [.sentinel], laidTests := true, laidLooks := .later }
def FnCutUpdateFeaturesResponseCardSaid : Prop := Claim7.holds Tryz.pinned (.plain (OpenSpec.ofChange fnCutUpdateFeaturesResponseSpec)) fnCutUpdateFeaturesResponseCard

/-- THE TIED CARD OF 'laws.FnAgainDeleteTopicsRequest'. -/
def fnAgainDeleteTopicsRequestCard : Claim7 := { stood := { row := fnAgainDeleteTopicsRequestRow, standIns := [], harness := (true, "61d2ef922d19cddc9cabf2eb4106c32f29ea2481b2d8ae7d3af275f8ed330ebe"), looks := false }, kinds := [], alts := [], laidByText := true, laidKinds := [.sentinel], laidTests := true, laidLooks := .later }
def FnAgainDeleteTopicsRequestCardSaid : Prop := Claim7.holds Tryz.pinned (.plain (OpenSpec.ofChange fnAgainDeleteTopicsRequestSpec)) fnAgainDeleteTopicsRequestCard

/-- THE SECOND FORM's CARD OF 'laws.FnCutOffsetCommitValue'. -/
def fnCutOffsetCommitValueUptoCard : Claim7 := { stood := { row := fnCutOffsetCommitValueUptoRow, standIns := [], harness := (true, "61d2ef922d19cddc9cabf2eb4106c32f29ea2481b2d8ae7d3af275f8ed330ebe"), looks := false }, kinds := [], alts := [], laidByText := true, laidKinds := [.sentinel], laidTests := true, laidLooks := .later }
def FnCutOffsetCommitValueUptoCardSaid : Prop := Claim7.holds Tryz.pinned (.plain (OpenSpec.upto fnCutOffsetCommitValueSpec)) fnCutOffsetCommitValueUptoCard

/-- THE SECOND FORM's CARD OF 'laws.FnAgainOffsetForLeaderEpochRequest'. -/
def fnAgainOffsetForLeaderEpochRequestUptoCard : Claim7 := { stood := { row := fnAgainOffsetForLeaderEpochRequestUptoRow, standIns := [], harness := (true, "61d2ef922d19cddc9cabf2eb4106c32f29ea2481b2d8ae7d3af275f8ed330ebe"), looks := false }, kinds := [], alts := [], laidByText := true, laidKinds := [.sentinel], laidTests := true, laidLooks := .later }
def FnAgainOffsetForLeaderEpochRequestUptoCardSaid : Prop := Claim7.holds Tryz.pinned (.plain (OpenSpec.upto fnAgainOffsetForLeaderEpochRequestSpec)) fnAgainOffsetForLeaderEpochRequestUptoCard

/-- THE SECOND FORM's CARD OF 'laws.FnAgainCreatePartitionsResponse'. -/
def fnAgainCreatePartitionsResponseUptoCard : Claim7 := { stood := { row := fnAgainCreatePartitionsResponseUptoRow, standIns := [], harness := (true, "61d2ef922d19cddc9cabf2eb4106c32f29ea2481b2d8ae7d3af275f8ed330ebe"), looks := false }, kinds := [], alts := [], laidByText := true, laidKinds := [.sentinel], laidTests := true, laidLooks := .later }
def FnAgainCreatePartitionsResponseUptoCardSaid : Prop := Claim7.holds Tryz.pinned (.plain (OpenSpec.upto fnAgainCreatePartitionsResponseSpec)) fnAgainCreatePartitionsResponseUptoCard

/-- THE SECOND FORM's CARD OF 'laws.FnAgainInitializeShareGroupStateRequest'. -/
def fnAgainInitializeShareGroupStateRequestUptoCard : Claim7 := { stood := { row := fnAgainInitializeShareGroupStateRequestUptoRow, standIns := [], harness := (true, "61d2ef922d19cddc9cabf2eb4106c32f29ea2481b2d8ae7d3af275f8ed330ebe"), looks := false }, kinds := [], alts := [], laidByText := true, laidKinds := [.sentinel], laidTests := true, laidLooks := .later }
def FnAgainInitializeShareGroupStateRequestUptoCardSaid : Prop := Claim7.holds Tryz.pinned (.plain (OpenSpec.upto fnAgainInitializeShareGroupStateRequestSpec)) fnAgainInitializeShareGroupStateRequestUptoCard

/-- THE SECOND FORM's CARD OF 'laws.FnCutUpdateFeaturesResponse'. -/
def fnCutUpdateFeaturesResponseUptoCard : Claim7 := { stood := { row := fnCutUpdateFeaturesResponseUptoRow, standIns := [], harness := (true, "61d2ef922d19cddc9cabf2eb4106c32f29ea2481b2d8ae7d3af275f8ed330ebe"), looks := false }, kinds := [], alts := [], laidByText := true, laidKinds := [.sentinel], laidTests := true, laidLooks := .later }
def FnCutUpdateFeaturesResponseUptoCardSaid : Prop := Claim7.holds Tryz.pinned (.plain (OpenSpec.upto fnCutUpdateFeaturesResponseSpec)) fnCutUpdateFeaturesResponseUptoCard

/-- THE SECOND FORM's CARD OF 'laws.FnAgainDeleteTopicsRequest'. -/
def fnAgainDeleteTopicsRequestUptoCard : Claim7 := { stood := { row := fnAgainDeleteTopicsRequestUptoRow, standIns := [], harness := (true, "61d2ef922d19cddc9cabf2eb4106c32f29ea2481b2d8ae7d3af275f8ed330ebe"), looks := false }, kinds := [], alts := [], laidByText := true, laidKinds := [.sentinel], laidTests := true, laidLooks := .later }
def FnAgainDeleteTopicsRequestUptoCardSaid : Prop := Claim7.holds Tryz.pinned (.plain (OpenSpec.upto fnAgainDeleteTopicsRequestSpec)) fnAgainDeleteTopicsRequestUptoCard
end Rows
end Go.Proofs.YtilojmciknccgaaGreatDoorRR
