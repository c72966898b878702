/-
  NARROWER THAN 'FOR EVERY INPUT', by the rows' own cells (each row's printed sentence says how): FnCutOffsetCommitValue: loops, laid · FnAgainOffsetForLeaderEpochRequest: loops, laid · FnAgainCreatePartitionsResponse: loops, laid · FnAgainInitializeShareGroupStateRequest: loops, laid · FnCutUpdateFeaturesResponse: loops, laid · FnAgainDeleteTopicsRequest: loops, laid.
  DERIVED. THE GIVEN ROWS OF THIS SEAT. 6 by the template 'for every input the law returns true; each argument reads behind the call as it read before'; 0 by the template 'total and deterministic' (their statements: YtilojmciknccgaaGreatDoorRRTotals.lean).
  GIVEN WITH THE SEED: the statements are not yours to turn. If you find one false, say at which input.
  Laid BY PROGRAM, IN A SANDBOX (cutbox-rows.mjs): the forced cells as the released guide's own fill.sh prints them over the translation 12d593b913b21e61… (all of the seat's roots in one cut). By AI agents, Wed Nov 11 2026. No macro, syntax, notation, axiom, sorry.
-/
import Derived.Test.YtilojmciknccgaaGreatDoorRRChecked
import GoSem.Claim
import GoSem.ClaimJoined
import GoSem.ClaimMapViews
import Derived.JoinedTies
import Derived.KernelRfl
namespace Go.Proofs.YtilojmciknccgaaGreatDoorRR
/- THE CELL 'sum', in the pinned program and in every row, IS THE sha256 OF THE DUMP (.gsa) THAT YtilojmciknccgaaGreatDoorRRProg.lean LOADS. Nothing in Lean hashes anything: it is a label: what it is worth is what the hold of that sum in a sandbox is worth. -/
noncomputable def Tryz.pinned : Pinned := { name := "ytilojmciknccgaagreatdoorrr", sum := "12d593b913b21e6132567f323db17bcb641235737c077cc0d71fe254702c9f68", checked := Tryz.checked }
namespace Rows
def none {H : Type} : Left H := { results := [], args := [] }

/- WHAT THE LISTED PACKAGE-LEVEL VARIABLES READ AS WHEN THE CALL BEGINS. Each datum BY PROGRAM (the guide's laid-datum.mjs) off the statement by which the dump's own 'gosem.cut.vars' lays the variable. In a bare row this is a premise. The card (YtilojmciknccgaaGreatDoorRRCards.lean) ties it to the program's text. -/
def laid_pub_kmsg_pub_kmsg_inner_kbin_ErrNotEnoughData {H : Type} : DataW H := .iface "*errors.errorString" (.ptr (.agg [.lit (.string [114, 101, 115, 112, 111, 110, 115, 101, 32, 100, 105, 100, 32, 110, 111, 116, 32, 99, 111, 110, 116, 97, 105, 110, 32, 101, 110, 111, 117, 103, 104, 32, 100, 97, 116, 97, 32, 116, 111, 32, 98, 101, 32, 118, 97, 108, 105, 100])]))

/-- 'laws.FnCutOffsetCommitValue': WHATEVER THE INPUT: true; the input reads as it did. -/
def fnCutOffsetCommitValueSpec : ChangeSpec := { name := "fnCutOffsetCommitValue", fn := fun _ => fun
  | [d1, d2, d3] => { results := [.lit (.bool true)], args := [d1, d2, d3] }
  | _ => none }
def fnCutOffsetCommitValueRow : OpenClaim := { program := "ytilojmciknccgaagreatdoorrr", sum := "12d593b913b21e6132567f323db17bcb641235737c077cc0d71fe254702c9f68", func := "pub-kmsg/laws.FnCutOffsetCommitValue", spec := "fnCutOffsetCommitValue", inPlace := ["internal/reflectlite.ValueOf", "internal/reflectlite.Swapper", "(internal/reflectlite.Value).Len"], unfollowed := true, recurses := true, named := ["encoding/binary.BigEndian", "pub-kmsg/pub/kmsg/inner/kbin.ErrNotEnoughData"], loops := true, apart := false, laid := [("pub-kmsg/pub/kmsg/inner/kbin.ErrNotEnoughData", laid_pub_kmsg_pub_kmsg_inner_kbin_ErrNotEnoughData)] }
def FnCutOffsetCommitValueSaid : Prop := fnCutOffsetCommitValueRow.holds Tryz.pinned (OpenSpec.ofChange fnCutOffsetCommitValueSpec)

/-- ITS FALSE NEIGHBOUR: 'it returns false'. Refute it at one input. -/
def fnCutOffsetCommitValueWrong : ChangeSpec := { name := "fnCutOffsetCommitValue", fn := fun _ => fun
  | [d1, d2, d3] => { results := [.lit (.bool false)], args := [d1, d2, d3] }
  | _ => none }
def FnCutOffsetCommitValueWrongFalsely : Prop := fnCutOffsetCommitValueRow.holds Tryz.pinned (OpenSpec.ofChange fnCutOffsetCommitValueWrong)

/-- 'laws.FnAgainOffsetForLeaderEpochRequest': WHATEVER THE INPUT: true; the input reads as it did. -/
def fnAgainOffsetForLeaderEpochRequestSpec : ChangeSpec := { name := "fnAgainOffsetForLeaderEpochRequest", fn := fun _ => fun
  | [d1, d2] => { results := [.lit (.bool true)], args := [d1, d2] }
  | _ => none }
def fnAgainOffsetForLeaderEpochRequestRow : OpenClaim := { program := "ytilojmciknccgaagreatdoorrr", sum := "12d593b913b21e6132567f323db17bcb641235737c077cc0d71fe254702c9f68", func := "pub-kmsg/laws.FnAgainOffsetForLeaderEpochRequest", spec := "fnAgainOffsetForLeaderEpochRequest", inPlace := ["internal/reflectlite.ValueOf", "internal/reflectlite.Swapper", "(internal/reflectlite.Value).Len"], unfollowed := true, recurses := true, named := ["encoding/binary.BigEndian", "pub-kmsg/pub/kmsg/inner/kbin.ErrNotEnoughData"], loops := true, apart := false, laid := [("pub-kmsg/pub/kmsg/inner/kbin.ErrNotEnoughData", laid_pub_kmsg_pub_kmsg_inner_kbin_ErrNotEnoughData)] }
def FnAgainOffsetForLeaderEpochRequestSaid : Prop := fnAgainOffsetForLeaderEpochRequestRow.holds Tryz.pinned (OpenSpec.ofChange fnAgainOffsetForLeaderEpochRequestSpec)

/-- ITS FALSE NEIGHBOUR: 'it returns false'. Refute it at one input. -/
def fnAgainOffsetForLeaderEpochRequestWrong : ChangeSpec := { name := "fnAgainOffsetForLeaderEpochRequest", fn := fun _ => fun
  | [d1, d2] => { results := [.lit (.bool false)], args := [d1, d2] }
  | _ => none }
def FnAgainOffsetForLeaderEpochRequestWrongFalsely : Prop := fnAgainOffsetForLeaderEpochRequestRow.holds Tryz.pinned (OpenSpec.ofChange fnAgainOffsetForLeaderEpochRequestWrong)

/-- 'laws.FnAgainCreatePartitionsResponse': WHATEVER THE INPUT: true; the input reads as it did. -/
def fnAgainCreatePartitionsResponseSpec : ChangeSpec := { name := "fnAgainCreatePartitionsResponse", fn := fun _ => fun
  | [d1, d2] => { results := [.lit (.bool true)], args := [d1, d2] }
  | _ => none }
def fnAgainCreatePartitionsResponseRow : OpenClaim := { program := "ytilojmciknccgaagreatdoorrr", sum := "12d593b913b21e6132567f323db17bcb641235737c077cc0d71fe254702c9f68", func := "pub-kmsg/laws.FnAgainCreatePartitionsResponse", spec := "fnAgainCreatePartitionsResponse", inPlace := ["internal/reflectlite.ValueOf", "internal/reflectlite.Swapper", "(internal/reflectlite.Value).Len"], unfollowed := true, recurses := true, named := ["encoding/binary.BigEndian", "pub-kmsg/pub/kmsg/inner/kbin.ErrNotEnoughData"], loops := true, apart := false, laid := [("pub-kmsg/pub/kmsg/inner/kbin.ErrNotEnoughData", laid_pub_kmsg_pub_kmsg_inner_kbin_ErrNotEnoughData)] }
def FnAgainCreatePartitionsResponseSaid : Prop := fnAgainCreatePartitionsResponseRow.holds Tryz.pinned (OpenSpec.ofChange fnAgainCreatePartitionsResponseSpec)

/-- ITS FALSE NEIGHBOUR: 'it returns false'. Refute it at one input. -/
def fnAgainCreatePartitionsResponseWrong : ChangeSpec := { name := "fnAgainCreatePartitionsResponse", fn := fun _ => fun
  | [d1, d2] => { results := [.lit (.bool false)], args := [d1, d2] }
  | _ => none }
def FnAgainCreatePartitionsResponseWrongFalsely : Prop := fnAgainCreatePartitionsResponseRow.holds Tryz.pinned (OpenSpec.ofChange fnAgainCreatePartitionsResponseWrong)

/-- 'laws.FnAgainInitializeShareGroupStateRequest': WHATEVER THE INPUT: true; the input reads as it did. -/
def fnAgainInitializeShareGroupStateRequestSpec : ChangeSpec := { name := "fnAgainInitializeShareGroupStateRequest", fn := fun _ => fun
  | [d1, d2] => { results := [.lit (.bool true)], args := [d1, d2] }
  | _ => none }
def fnAgainInitializeShareGroupStateRequestRow : OpenClaim := { program := "ytilojmciknccgaagreatdoorrr", sum := "12d593b913b21e6132567f323db17bcb641235737c077cc0d71fe254702c9f68", func := "pub-kmsg/laws.FnAgainInitializeShareGroupStateRequest", spec := "fnAgainInitializeShareGroupStateRequest", inPlace := ["internal/reflectlite.ValueOf", "internal/reflectlite.Swapper", "(internal/reflectlite.Value).Len"], unfollowed := true, recurses := true, named := ["encoding/binary.BigEndian", "pub-kmsg/pub/kmsg/inner/kbin.ErrNotEnoughData"], loops := true, apart := false, laid := [("pub-kmsg/pub/kmsg/inner/kbin.ErrNotEnoughData", laid_pub_kmsg_pub_kmsg_inner_kbin_ErrNotEnoughData)] }
def FnAgainInitializeShareGroupStateRequestSaid : Prop := fnAgainInitializeShareGroupStateRequestRow.holds Tryz.pinned (OpenSpec.ofChange fnAgainInitializeShareGroupStateRequestSpec)

/-- ITS FALSE NEIGHBOUR: 'it returns false'. Refute it at one input. -/
def fnAgainInitializeShareGroupStateRequestWrong : ChangeSpec := { name := "fnAgainInitializeShareGroupStateRequest", fn := fun _ => fun
  | [d1, d2] => { results := [.lit (.bool false)], args := [d1, d2] }
  | _ => none }
def FnAgainInitializeShareGroupStateRequestWrongFalsely : Prop := fnAgainInitializeShareGroupStateRequestRow.holds Tryz.pinned (OpenSpec.ofChange fnAgainInitializeShareGroupStateRequestWrong)

/-- 'laws.FnCutUpdateFeaturesResponse': WHATEVER THE INPUT: true; the input reads as it did. -/
def fnCutUpdateFeaturesResponseSpec : ChangeSpec := { name := "fnCutUpdateFeaturesResponse", fn := fun _ => fun
  | [d1, d2, d3] => { results := [.lit (.bool true)], args := [d1, d2, d3] }
  | _ => none }
def fnCutUpdateFeaturesResponseRow : OpenClaim := { program := "ytilojmciknccgaagreatdoorrr", sum := "12d593b913b21e6132567f323db17bcb641235737c077cc0d71fe254702c9f68", func := "pub-kmsg/laws.FnCutUpdateFeaturesResponse", spec := "fnCutUpdateFeaturesResponse", inPlace := ["internal/reflectlite.ValueOf", "internal/reflectlite.Swapper", "(internal/reflectlite.Value).Len"], unfollowed := true, recurses := true, named := ["encoding/binary.BigEndian", "pub-kmsg/pub/kmsg/inner/kbin.ErrNotEnoughData"], loops := true, apart := false, laid := [("pub-kmsg/pub/kmsg/inner/kbin.ErrNotEnoughData", laid_pub_kmsg_pub_kmsg_inner_kbin_ErrNotEnoughData)] }
def FnCutUpdateFeaturesResponseSaid : Prop := fnCutUpdateFeaturesResponseRow.holds Tryz.pinned (OpenSpec.ofChange fnCutUpdateFeaturesResponseSpec)

/-- ITS FALSE NEIGHBOUR: 'it returns false'. Refute it at one input. -/
def fnCutUpdateFeaturesResponseWrong : ChangeSpec := { name := "fnCutUpdateFeaturesResponse", fn := fun _ => fun
  | [d1, d2, d3] => { results := [.lit (.bool false)], args := [d1, d2, d3] }
  | _ => none }
def FnCutUpdateFeaturesResponseWrongFalsely : Prop := fnCutUpdateFeaturesResponseRow.holds Tryz.pinned (OpenSpec.ofChange fnCutUpdateFeaturesResponseWrong)

/-- 'laws.FnAgainDeleteTopicsRequest': WHATEVER THE INPUT: true; the input reads as it did. -/
def fnAgainDeleteTopicsRequestSpec : ChangeSpec := { name := "fnAgainDeleteTopicsRequest", fn := fun _ => fun
  | [d1, d2] => { results := [.lit (.bool true)], args := [d1, d2] }
  | _ => none }
def fnAgainDeleteTopicsRequestRow : OpenClaim := { program := "ytilojmciknccgaagreatdoorrr", sum := "12d593b913b21e6132567f323db17bcb641235737c077cc0d71fe254702c9f68", func := "pub-kmsg/laws.FnAgainDeleteTopicsRequest", spec := "fnAgainDeleteTopicsRequest", inPlace := ["internal/reflectlite.ValueOf", "internal/reflectlite.Swapper", "(internal/reflectlite.Value).Len"], unfollowed := true, recurses := true, named := ["encoding/binary.BigEndian", "pub-kmsg/pub/kmsg/inner/kbin.ErrNotEnoughData"], loops := true, apart := false, laid := [("pub-kmsg/pub/kmsg/inner/kbin.ErrNotEnoughData", laid_pub_kmsg_pub_kmsg_inner_kbin_ErrNotEnoughData)] }
def FnAgainDeleteTopicsRequestSaid : Prop := fnAgainDeleteTopicsRequestRow.holds Tryz.pinned (OpenSpec.ofChange fnAgainDeleteTopicsRequestSpec)

/-- ITS FALSE NEIGHBOUR: 'it returns false'. Refute it at one input. -/
def fnAgainDeleteTopicsRequestWrong : ChangeSpec := { name := "fnAgainDeleteTopicsRequest", fn := fun _ => fun
  | [d1, d2] => { results := [.lit (.bool false)], args := [d1, d2] }
  | _ => none }
def FnAgainDeleteTopicsRequestWrongFalsely : Prop := fnAgainDeleteTopicsRequestRow.holds Tryz.pinned (OpenSpec.ofChange fnAgainDeleteTopicsRequestWrong)

/- THE SECOND FORM. 'bulk': how many values and letters a reading holds, each counted each time it is reached (what is shared counts as often as it is met; a slice's spare places count too). A statement '..UptoSaid' is the law's where the arguments, and the package variables that the reading takes, are together of bulk at most 1048576: NARROWER than '..Said'. Prove '..Said' where nothing that the law and all that it calls make is longer than what came in: it says more and counts as full. Else prove '..UptoSaid'. A law counts once. -/
mutual
def uptoBulk {H : Type} : DataW H → Nat
  | .lit (.string bytes) => bytes.length + 1
  | .lit _ => 1
  | .nil => 1
  | .ptr d => uptoBulk d + 1
  | .slice elems spare => uptoBulkAll elems + uptoBulkAll spare + 1
  | .agg parts => uptoBulkAll parts + 1
  | .iface _ d => uptoBulk d + 1
  | .map entries => uptoBulkEntries entries + 1
  | .held _ => 1
def uptoBulkAll {H : Type} : List (DataW H) → Nat
  | [] => 0
  | d :: r => uptoBulk d + uptoBulkAll r
def uptoBulkEntries {H : Type} : List (Lit × DataW H) → Nat
  | [] => 0
  | x :: r => uptoBulkEntry x + uptoBulkEntries r
def uptoBulkEntry {H : Type} : Lit × DataW H → Nat
  | (.string bytes, d) => bytes.length + uptoBulk d + 1
  | (_, d) => uptoBulk d + 1
 end
def uptoSmall : (H : Type) → List (DataW H) → Bool := fun _ ds => decide (uptoBulkAll ds ≤ 1048576)
def OpenSpec.upto (s : _root_.Go.ChangeSpec) : _root_.Go.OpenSpec := { _root_.Go.OpenSpec.ofChange s with cond := some uptoSmall }

/-- 'laws.FnCutOffsetCommitValue', WHERE WHAT IT READS IS OF BULK AT MOST 1048576: true; the input reads as it did. -/
def fnCutOffsetCommitValueUptoRow : OpenClaim := { program := "ytilojmciknccgaagreatdoorrr", sum := "12d593b913b21e6132567f323db17bcb641235737c077cc0d71fe254702c9f68", func := "pub-kmsg/laws.FnCutOffsetCommitValue", spec := "fnCutOffsetCommitValue", inPlace := ["internal/reflectlite.ValueOf", "internal/reflectlite.Swapper", "(internal/reflectlite.Value).Len"], unfollowed := true, recurses := true, named := ["encoding/binary.BigEndian", "pub-kmsg/pub/kmsg/inner/kbin.ErrNotEnoughData"], loops := true, apart := false, laid := [("pub-kmsg/pub/kmsg/inner/kbin.ErrNotEnoughData", laid_pub_kmsg_pub_kmsg_inner_kbin_ErrNotEnoughData)], narrowed := true }
def FnCutOffsetCommitValueUptoSaid : Prop := fnCutOffsetCommitValueUptoRow.holds Tryz.pinned (OpenSpec.upto fnCutOffsetCommitValueSpec)

/-- 'laws.FnAgainOffsetForLeaderEpochRequest', WHERE WHAT IT READS IS OF BULK AT MOST 1048576: true; the input reads as it did. -/
def fnAgainOffsetForLeaderEpochRequestUptoRow : OpenClaim := { program := "ytilojmciknccgaagreatdoorrr", sum := "12d593b913b21e6132567f323db17bcb641235737c077cc0d71fe254702c9f68", func := "pub-kmsg/laws.FnAgainOffsetForLeaderEpochRequest", spec := "fnAgainOffsetForLeaderEpochRequest", inPlace := ["internal/reflectlite.ValueOf", "internal/reflectlite.Swapper", "(internal/reflectlite.Value).Len"], unfollowed := true, recurses := true, named := ["encoding/binary.BigEndian", "pub-kmsg/pub/kmsg/inner/kbin.ErrNotEnoughData"], loops := true, apart := false, laid := [("pub-kmsg/pub/kmsg/inner/kbin.ErrNotEnoughData", laid_pub_kmsg_pub_kmsg_inner_kbin_ErrNotEnoughData)], narrowed := true }
def FnAgainOffsetForLeaderEpochRequestUptoSaid : Prop := fnAgainOffsetForLeaderEpochRequestUptoRow.holds Tryz.pinned (OpenSpec.upto fnAgainOffsetForLeaderEpochRequestSpec)

/-- 'laws.FnAgainCreatePartitionsResponse', WHERE WHAT IT READS IS OF BULK AT MOST 1048576: true; the input reads as it did. -/
def fnAgainCreatePartitionsResponseUptoRow : OpenClaim := { program := "ytilojmciknccgaagreatdoorrr", sum := "12d593b913b21e6132567f323db17bcb641235737c077cc0d71fe254702c9f68", func := "pub-kmsg/laws.FnAgainCreatePartitionsResponse", spec := "fnAgainCreatePartitionsResponse", inPlace := ["internal/reflectlite.ValueOf", "internal/reflectlite.Swapper", "(internal/reflectlite.Value).Len"], unfollowed := true, recurses := true, named := ["encoding/binary.BigEndian", "pub-kmsg/pub/kmsg/inner/kbin.ErrNotEnoughData"], loops := true, apart := false, laid := [("pub-kmsg/pub/kmsg/inner/kbin.ErrNotEnoughData", laid_pub_kmsg_pub_kmsg_inner_kbin_ErrNotEnoughData)], narrowed := true }
def FnAgainCreatePartitionsResponseUptoSaid : Prop := fnAgainCreatePartitionsResponseUptoRow.holds Tryz.pinned (OpenSpec.upto fnAgainCreatePartitionsResponseSpec)

/-- 'laws.FnAgainInitializeShareGroupStateRequest', WHERE WHAT IT READS IS OF BULK AT MOST 1048576: true; the input reads as it did. -/
def fnAgainInitializeShareGroupStateRequestUptoRow : OpenClaim := { program := "ytilojmciknccgaagreatdoorrr", sum := "12d593b913b21e6132567f323db17bcb641235737c077cc0d71fe254702c9f68", func := "pub-kmsg/laws.FnAgainInitializeShareGroupStateRequest", spec := "fnAgainInitializeShareGroupStateRequest", inPlace := ["internal/reflectlite.ValueOf", "internal/reflectlite.Swapper", "(internal/reflectlite.Value).Len"], unfollowed := true, recurses := true, named := ["encoding/binary.BigEndian", "pub-kmsg/pub/kmsg/inner/kbin.ErrNotEnoughData"], loops := true, apart := false, laid := [("pub-kmsg/pub/kmsg/inner/kbin.ErrNotEnoughData", laid_pub_kmsg_pub_kmsg_inner_kbin_ErrNotEnoughData)], narrowed := true }
def FnAgainInitializeShareGroupStateRequestUptoSaid : Prop := fnAgainInitializeShareGroupStateRequestUptoRow.holds Tryz.pinned (OpenSpec.upto fnAgainInitializeShareGroupStateRequestSpec)

/-- 'laws.FnCutUpdateFeaturesResponse', WHERE WHAT IT READS IS OF BULK AT MOST 1048576: true; the input reads as it did. -/
def fnCutUpdateFeaturesResponseUptoRow : OpenClaim := { program := "ytilojmciknccgaagreatdoorrr", sum := "12d593b913b21e6132567f323db17bcb641235737c077cc0d71fe254702c9f68", func := "pub-kmsg/laws.FnCutUpdateFeaturesResponse", spec := "fnCutUpdateFeaturesResponse", inPlace := ["internal/reflectlite.ValueOf", "internal/reflectlite.Swapper", "(internal/reflectlite.Value).Len"], unfollowed := true, recurses := true, named := ["encoding/binary.BigEndian", "pub-kmsg/pub/kmsg/inner/kbin.ErrNotEnoughData"], loops := true, apart := false, laid := [("pub-kmsg/pub/kmsg/inner/kbin.ErrNotEnoughData", laid_pub_kmsg_pub_kmsg_inner_kbin_ErrNotEnoughData)], narrowed := true }
def FnCutUpdateFeaturesResponseUptoSaid : Prop := fnCutUpdateFeaturesResponseUptoRow.holds Tryz.pinned (OpenSpec.upto fnCutUpdateFeaturesResponseSpec)

/-- 'laws.FnAgainDeleteTopicsRequest', WHERE WHAT IT READS IS OF BULK AT MOST 1048576: true; the input reads as it did. -/
def fnAgainDeleteTopicsRequestUptoRow : OpenClaim := { program := "ytilojmciknccgaagreatdoorrr", sum := "12d593b913b21e6132567f323db17bcb641235737c077cc0d71fe254702c9f68", func := "pub-kmsg/laws.FnAgainDeleteTopicsRequest", spec := "fnAgainDeleteTopicsRequest", inPlace := ["internal/reflectlite.ValueOf", "internal/reflectlite.Swapper", "(internal/reflectlite.Value).Len"], unfollowed := true, recurses := true, named := ["encoding/binary.BigEndian", "pub-kmsg/pub/kmsg/inner/kbin.ErrNotEnoughData"], loops := true, apart := false, laid := [("pub-kmsg/pub/kmsg/inner/kbin.ErrNotEnoughData", laid_pub_kmsg_pub_kmsg_inner_kbin_ErrNotEnoughData)], narrowed := true }
def FnAgainDeleteTopicsRequestUptoSaid : Prop := fnAgainDeleteTopicsRequestUptoRow.holds Tryz.pinned (OpenSpec.upto fnAgainDeleteTopicsRequestSpec)

end Rows
end Go.Proofs.YtilojmciknccgaaGreatDoorRR
