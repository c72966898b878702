/-
  NARROWER THAN 'FOR EVERY INPUT', by the rows' own cells (each row's printed sentence says how): FnAnyConsumerMemberAssignment: laid · FnAnyAddOffsetsToTxnResponse: laid · FnAnyHeartbeatResponse: laid · FnAnyListConfigResourcesRequest: laid · FnAnyEnvelopeRequest: laid · FnAnyUpdateRaftVoterResponse: laid · FnAnyReadShareGroupStateSummaryRequest: laid · FnAnyOffsetCommitResponse: laid.
  DERIVED. THE GIVEN ROWS OF THIS SEAT. 8 by the template 'for every input the law returns true; each argument reads behind the call as it read before'; 0 by the template 'total and deterministic' (their statements: YtfbdfieeoobceaaDoorTotals.lean).
  GIVEN WITH THE SEED: the statements are not yours to turn. If you find one false, say at which input.
  Laid BY PROGRAM, IN A SANDBOX (cutbox-rows.mjs): the forced cells as the released guide's own fill.sh prints them over the translation 6757a970af7eeb3a… (all of the seat's roots in one cut). By AI agents, Wed Nov 11 2026. No macro, syntax, notation, axiom, sorry.
-/
import Derived.Test.YtfbdfieeoobceaaDoorChecked
import GoSem.Claim
import GoSem.ClaimJoined
import GoSem.ClaimMapViews
import Derived.JoinedTies
import Derived.KernelRfl
namespace Go.Proofs.YtfbdfieeoobceaaDoor
/- THE CELL 'sum', in the pinned program and in every row, IS THE sha256 OF THE DUMP (.gsa) THAT YtfbdfieeoobceaaDoorProg.lean LOADS. Nothing in Lean hashes anything: it is a label: what it is worth is what the hold of that sum in a sandbox is worth. -/
noncomputable def Tryd.pinned : Pinned := { name := "ytfbdfieeoobceaadoor", sum := "6757a970af7eeb3a817fb02a72d227e0daaa5aa8dcaf0f13823d0bb1b6bfe831", checked := Tryd.checked }
namespace Rows
def none {H : Type} : Left H := { results := [], args := [] }

/- WHAT THE LISTED PACKAGE-LEVEL VARIABLES READ AS WHEN THE CALL BEGINS. Each datum BY PROGRAM (the guide's laid-datum.mjs) off the statement by which the dump's own 'gosem.cut.vars' lays the variable. In a bare row this is a premise. The card (YtfbdfieeoobceaaDoorCards.lean) ties it to the program's text. -/
def laid_pub_kmsg_pub_kmsg_inner_kbin_ErrNotEnoughData {H : Type} : DataW H := .iface "*errors.errorString" (.ptr (.agg [.lit (.string [114, 101, 115, 112, 111, 110, 115, 101, 32, 100, 105, 100, 32, 110, 111, 116, 32, 99, 111, 110, 116, 97, 105, 110, 32, 101, 110, 111, 117, 103, 104, 32, 100, 97, 116, 97, 32, 116, 111, 32, 98, 101, 32, 118, 97, 108, 105, 100])]))

/-- 'laws.FnAnyConsumerMemberAssignment': WHATEVER THE INPUT: true; the input reads as it did. -/
def fnAnyConsumerMemberAssignmentSpec : ChangeSpec := { name := "fnAnyConsumerMemberAssignment", fn := fun _ => fun
  | [d] => { results := [.lit (.bool true)], args := [d] }
  | _ => none }
def fnAnyConsumerMemberAssignmentRow : OpenClaim := { program := "ytfbdfieeoobceaadoor", sum := "6757a970af7eeb3a817fb02a72d227e0daaa5aa8dcaf0f13823d0bb1b6bfe831", func := "pub-kmsg/laws.FnAnyConsumerMemberAssignment", spec := "fnAnyConsumerMemberAssignment", recurses := true, named := ["encoding/binary.BigEndian", "pub-kmsg/pub/kmsg/inner/kbin.ErrNotEnoughData"], apart := false, laid := [("pub-kmsg/pub/kmsg/inner/kbin.ErrNotEnoughData", laid_pub_kmsg_pub_kmsg_inner_kbin_ErrNotEnoughData)] }
def FnAnyConsumerMemberAssignmentSaid : Prop := fnAnyConsumerMemberAssignmentRow.holds Tryd.pinned (OpenSpec.ofChange fnAnyConsumerMemberAssignmentSpec)

/-- ITS FALSE NEIGHBOUR: 'it returns false'. Refute it at one input. -/
def fnAnyConsumerMemberAssignmentWrong : ChangeSpec := { name := "fnAnyConsumerMemberAssignment", fn := fun _ => fun
  | [d] => { results := [.lit (.bool false)], args := [d] }
  | _ => none }
def FnAnyConsumerMemberAssignmentWrongFalsely : Prop := fnAnyConsumerMemberAssignmentRow.holds Tryd.pinned (OpenSpec.ofChange fnAnyConsumerMemberAssignmentWrong)

/-- 'laws.FnAnyAddOffsetsToTxnResponse': WHATEVER THE INPUT: true; the input reads as it did. -/
def fnAnyAddOffsetsToTxnResponseSpec : ChangeSpec := { name := "fnAnyAddOffsetsToTxnResponse", fn := fun _ => fun
  | [d1, d2] => { results := [.lit (.bool true)], args := [d1, d2] }
  | _ => none }
def fnAnyAddOffsetsToTxnResponseRow : OpenClaim := { program := "ytfbdfieeoobceaadoor", sum := "6757a970af7eeb3a817fb02a72d227e0daaa5aa8dcaf0f13823d0bb1b6bfe831", func := "pub-kmsg/laws.FnAnyAddOffsetsToTxnResponse", spec := "fnAnyAddOffsetsToTxnResponse", inPlace := ["internal/reflectlite.ValueOf", "internal/reflectlite.Swapper", "(internal/reflectlite.Value).Len"], unfollowed := true, recurses := true, named := ["encoding/binary.BigEndian", "pub-kmsg/pub/kmsg/inner/kbin.ErrNotEnoughData"], apart := false, laid := [("pub-kmsg/pub/kmsg/inner/kbin.ErrNotEnoughData", laid_pub_kmsg_pub_kmsg_inner_kbin_ErrNotEnoughData)] }
def FnAnyAddOffsetsToTxnResponseSaid : Prop := fnAnyAddOffsetsToTxnResponseRow.holds Tryd.pinned (OpenSpec.ofChange fnAnyAddOffsetsToTxnResponseSpec)

/-- ITS FALSE NEIGHBOUR: 'it returns false'. Refute it at one input. -/
def fnAnyAddOffsetsToTxnResponseWrong : ChangeSpec := { name := "fnAnyAddOffsetsToTxnResponse", fn := fun _ => fun
  | [d1, d2] => { results := [.lit (.bool false)], args := [d1, d2] }
  | _ => none }
def FnAnyAddOffsetsToTxnResponseWrongFalsely : Prop := fnAnyAddOffsetsToTxnResponseRow.holds Tryd.pinned (OpenSpec.ofChange fnAnyAddOffsetsToTxnResponseWrong)

/-- 'laws.FnAnyHeartbeatResponse': WHATEVER THE INPUT: true; the input reads as it did. -/
def fnAnyHeartbeatResponseSpec : ChangeSpec := { name := "fnAnyHeartbeatResponse", fn := fun _ => fun
  | [d1, d2] => { results := [.lit (.bool true)], args := [d1, d2] }
  | _ => none }
def fnAnyHeartbeatResponseRow : OpenClaim := { program := "ytfbdfieeoobceaadoor", sum := "6757a970af7eeb3a817fb02a72d227e0daaa5aa8dcaf0f13823d0bb1b6bfe831", func := "pub-kmsg/laws.FnAnyHeartbeatResponse", spec := "fnAnyHeartbeatResponse", inPlace := ["internal/reflectlite.ValueOf", "internal/reflectlite.Swapper", "(internal/reflectlite.Value).Len"], unfollowed := true, recurses := true, named := ["encoding/binary.BigEndian", "pub-kmsg/pub/kmsg/inner/kbin.ErrNotEnoughData"], apart := false, laid := [("pub-kmsg/pub/kmsg/inner/kbin.ErrNotEnoughData", laid_pub_kmsg_pub_kmsg_inner_kbin_ErrNotEnoughData)] }
def FnAnyHeartbeatResponseSaid : Prop := fnAnyHeartbeatResponseRow.holds Tryd.pinned (OpenSpec.ofChange fnAnyHeartbeatResponseSpec)

/-- ITS FALSE NEIGHBOUR: 'it returns false'. Refute it at one input. -/
def fnAnyHeartbeatResponseWrong : ChangeSpec := { name := "fnAnyHeartbeatResponse", fn := fun _ => fun
  | [d1, d2] => { results := [.lit (.bool false)], args := [d1, d2] }
  | _ => none }
def FnAnyHeartbeatResponseWrongFalsely : Prop := fnAnyHeartbeatResponseRow.holds Tryd.pinned (OpenSpec.ofChange fnAnyHeartbeatResponseWrong)

/-- 'laws.FnAnyListConfigResourcesRequest': WHATEVER THE INPUT: true; the input reads as it did. -/
def fnAnyListConfigResourcesRequestSpec : ChangeSpec := { name := "fnAnyListConfigResourcesRequest", fn := fun _ => fun
  | [d1, d2] => { results := [.lit (.bool true)], args := [d1, d2] }
  | _ => none }
def fnAnyListConfigResourcesRequestRow : OpenClaim := { program := "ytfbdfieeoobceaadoor", sum := "6757a970af7eeb3a817fb02a72d227e0daaa5aa8dcaf0f13823d0bb1b6bfe831", func := "pub-kmsg/laws.FnAnyListConfigResourcesRequest", spec := "fnAnyListConfigResourcesRequest", inPlace := ["internal/reflectlite.ValueOf", "internal/reflectlite.Swapper", "(internal/reflectlite.Value).Len"], unfollowed := true, recurses := true, named := ["encoding/binary.BigEndian", "pub-kmsg/pub/kmsg/inner/kbin.ErrNotEnoughData"], apart := false, laid := [("pub-kmsg/pub/kmsg/inner/kbin.ErrNotEnoughData", laid_pub_kmsg_pub_kmsg_inner_kbin_ErrNotEnoughData)] }
def FnAnyListConfigResourcesRequestSaid : Prop := fnAnyListConfigResourcesRequestRow.holds Tryd.pinned (OpenSpec.ofChange fnAnyListConfigResourcesRequestSpec)

/-- ITS FALSE NEIGHBOUR: 'it returns false'. Refute it at one input. -/
def fnAnyListConfigResourcesRequestWrong : ChangeSpec := { name := "fnAnyListConfigResourcesRequest", fn := fun _ => fun
  | [d1, d2] => { results := [.lit (.bool false)], args := [d1, d2] }
  | _ => none }
def FnAnyListConfigResourcesRequestWrongFalsely : Prop := fnAnyListConfigResourcesRequestRow.holds Tryd.pinned (OpenSpec.ofChange fnAnyListConfigResourcesRequestWrong)

/-- 'laws.FnAnyEnvelopeRequest': WHATEVER THE INPUT: true; the input reads as it did. -/
def fnAnyEnvelopeRequestSpec : ChangeSpec := { name := "fnAnyEnvelopeRequest", fn := fun _ => fun
  | [d1, d2] => { results := [.lit (.bool true)], args := [d1, d2] }
  | _ => none }
def fnAnyEnvelopeRequestRow : OpenClaim := { program := "ytfbdfieeoobceaadoor", sum := "6757a970af7eeb3a817fb02a72d227e0daaa5aa8dcaf0f13823d0bb1b6bfe831", func := "pub-kmsg/laws.FnAnyEnvelopeRequest", spec := "fnAnyEnvelopeRequest", inPlace := ["internal/reflectlite.ValueOf", "internal/reflectlite.Swapper", "(internal/reflectlite.Value).Len"], unfollowed := true, recurses := true, named := ["encoding/binary.BigEndian", "pub-kmsg/pub/kmsg/inner/kbin.ErrNotEnoughData"], apart := false, laid := [("pub-kmsg/pub/kmsg/inner/kbin.ErrNotEnoughData", laid_pub_kmsg_pub_kmsg_inner_kbin_ErrNotEnoughData)] }
def FnAnyEnvelopeRequestSaid : Prop := fnAnyEnvelopeRequestRow.holds Tryd.pinned (OpenSpec.ofChange fnAnyEnvelopeRequestSpec)

/-- ITS FALSE NEIGHBOUR: 'it returns false'. Refute it at one input. -/
def fnAnyEnvelopeRequestWrong : ChangeSpec := { name := "fnAnyEnvelopeRequest", fn := fun _ => fun
  | [d1, d2] => { results := [.lit (.bool false)], args := [d1, d2] }
  | _ => none }
def FnAnyEnvelopeRequestWrongFalsely : Prop := fnAnyEnvelopeRequestRow.holds Tryd.pinned (OpenSpec.ofChange fnAnyEnvelopeRequestWrong)

/-- 'laws.FnAnyUpdateRaftVoterResponse': WHATEVER THE INPUT: true; the input reads as it did. -/
def fnAnyUpdateRaftVoterResponseSpec : ChangeSpec := { name := "fnAnyUpdateRaftVoterResponse", fn := fun _ => fun
  | [d1, d2] => { results := [.lit (.bool true)], args := [d1, d2] }
  | _ => none }
def fnAnyUpdateRaftVoterResponseRow : OpenClaim := { program := "ytfbdfieeoobceaadoor", sum := "6757a970af7eeb3a817fb02a72d227e0daaa5aa8dcaf0f13823d0bb1b6bfe831", func := "pub-kmsg/laws.FnAnyUpdateRaftVoterResponse", spec := "fnAnyUpdateRaftVoterResponse", inPlace := ["internal/reflectlite.ValueOf", "internal/reflectlite.Swapper", "(internal/reflectlite.Value).Len"], unfollowed := true, recurses := true, named := ["encoding/binary.BigEndian", "pub-kmsg/pub/kmsg/inner/kbin.ErrNotEnoughData"], apart := false, laid := [("pub-kmsg/pub/kmsg/inner/kbin.ErrNotEnoughData", laid_pub_kmsg_pub_kmsg_inner_kbin_ErrNotEnoughData)] }
def FnAnyUpdateRaftVoterResponseSaid : Prop := fnAnyUpdateRaftVoterResponseRow.holds Tryd.pinned (OpenSpec.ofChange fnAnyUpdateRaftVoterResponseSpec)

/-- ITS FALSE NEIGHBOUR: 'it returns false'. Refute it at one input. -/
def fnAnyUpdateRaftVoterResponseWrong : ChangeSpec := { name := "fnAnyUpdateRaftVoterResponse", fn := fun _ => fun
  | [d1, d2] => { results := [.lit (.bool false)], args := [d1, d2] }
  | _ => none }
def FnAnyUpdateRaftVoterResponseWrongFalsely : Prop := fnAnyUpdateRaftVoterResponseRow.holds Tryd.pinned (OpenSpec.ofChange fnAnyUpdateRaftVoterResponseWrong)

/-- 'laws.FnAnyReadShareGroupStateSummaryRequest': WHATEVER THE INPUT: true; the input reads as it did. -/
def fnAnyReadShareGroupStateSummaryRequestSpec : ChangeSpec := { name := "fnAnyReadShareGroupStateSummaryRequest", fn := fun _ => fun
  | [d1, d2] => { results := [.lit (.bool true)], args := [d1, d2] }
  | _ => none }
def fnAnyReadShareGroupStateSummaryRequestRow : OpenClaim := { program := "ytfbdfieeoobceaadoor", sum := "6757a970af7eeb3a817fb02a72d227e0daaa5aa8dcaf0f13823d0bb1b6bfe831", func := "pub-kmsg/laws.FnAnyReadShareGroupStateSummaryRequest", spec := "fnAnyReadShareGroupStateSummaryRequest", inPlace := ["internal/reflectlite.ValueOf", "internal/reflectlite.Swapper", "(internal/reflectlite.Value).Len"], unfollowed := true, recurses := true, named := ["encoding/binary.BigEndian", "pub-kmsg/pub/kmsg/inner/kbin.ErrNotEnoughData"], apart := false, laid := [("pub-kmsg/pub/kmsg/inner/kbin.ErrNotEnoughData", laid_pub_kmsg_pub_kmsg_inner_kbin_ErrNotEnoughData)] }
def FnAnyReadShareGroupStateSummaryRequestSaid : Prop := fnAnyReadShareGroupStateSummaryRequestRow.holds Tryd.pinned (OpenSpec.ofChange fnAnyReadShareGroupStateSummaryRequestSpec)

/-- ITS FALSE NEIGHBOUR: 'it returns false'. Refute it at one input. -/
def fnAnyReadShareGroupStateSummaryRequestWrong : ChangeSpec := { name := "fnAnyReadShareGroupStateSummaryRequest", fn := fun _ => fun
  | [d1, d2] => { results := [.lit (.bool false)], args := [d1, d2] }
  | _ => none }
def FnAnyReadShareGroupStateSummaryRequestWrongFalsely : Prop := fnAnyReadShareGroupStateSummaryRequestRow.holds Tryd.pinned (OpenSpec.ofChange fnAnyReadShareGroupStateSummaryRequestWrong)

/-- 'laws.FnAnyOffsetCommitResponse': WHATEVER THE INPUT: true; the input reads as it did. -/
def fnAnyOffsetCommitResponseSpec : ChangeSpec := { name := "fnAnyOffsetCommitResponse", fn := fun _ => fun
  | [d1, d2] => { results := [.lit (.bool true)], args := [d1, d2] }
  | _ => none }
def fnAnyOffsetCommitResponseRow : OpenClaim := { program := "ytfbdfieeoobceaadoor", sum := "6757a970af7eeb3a817fb02a72d227e0daaa5aa8dcaf0f13823d0bb1b6bfe831", func := "pub-kmsg/laws.FnAnyOffsetCommitResponse", spec := "fnAnyOffsetCommitResponse", inPlace := ["internal/reflectlite.ValueOf", "internal/reflectlite.Swapper", "(internal/reflectlite.Value).Len"], unfollowed := true, recurses := true, named := ["encoding/binary.BigEndian", "pub-kmsg/pub/kmsg/inner/kbin.ErrNotEnoughData"], apart := false, laid := [("pub-kmsg/pub/kmsg/inner/kbin.ErrNotEnoughData", laid_pub_kmsg_pub_kmsg_inner_kbin_ErrNotEnoughData)] }
def FnAnyOffsetCommitResponseSaid : Prop := fnAnyOffsetCommitResponseRow.holds Tryd.pinned (OpenSpec.ofChange fnAnyOffsetCommitResponseSpec)

/-- ITS FALSE NEIGHBOUR: 'it returns false'. Refute it at one input. -/
def fnAnyOffsetCommitResponseWrong : ChangeSpec := { name := "fnAnyOffsetCommitResponse", fn := fun _ => fun
  | [d1, d2] => { results := [.lit (.bool false)], args := [d1, d2] }
  | _ => none }
def FnAnyOffsetCommitResponseWrongFalsely : Prop := fnAnyOffsetCommitResponseRow.holds Tryd.pinned (OpenSpec.ofChange fnAnyOffsetCommitResponseWrong)

/- THE SECOND FORM. 'bulk': how many values and letters a reading holds, each counted each time it is reached (what is shared counts as often as it is met; a slice's spare places count too). A statement '..UptoSaid' is the law's where the arguments, and the package variables that the reading takes, are together of bulk at most 1048576: NARROWER than '..Said'. Prove '..Said' where nothing that the law and all that it calls make is longer than what came in: it says more and counts as full. Else prove '..UptoSaid'. A law counts once. -/
mutual
def uptoBulk {H : Type} : DataW H → Nat
  | .lit (.string bytes) => bytes.length + 1
  | .lit _ => 1
  | .nil => 1
  | .ptr d => uptoBulk d + 1
  | .slice elems spare => uptoBulkAll elems + uptoBulkAll spare + 1
  | .agg parts => uptoBulkAll parts + 1
  | .iface _ d => uptoBulk d + 1
  | .map entries => uptoBulkEntries entries + 1
  | .held _ => 1
def uptoBulkAll {H : Type} : List (DataW H) → Nat
  | [] => 0
  | d :: r => uptoBulk d + uptoBulkAll r
def uptoBulkEntries {H : Type} : List (Lit × DataW H) → Nat
  | [] => 0
  | x :: r => uptoBulkEntry x + uptoBulkEntries r
def uptoBulkEntry {H : Type} : Lit × DataW H → Nat
  | (.string bytes, d) => bytes.length + uptoBulk d + 1
  | (_, d) => uptoBulk d + 1
 end
def uptoSmall : (H : Type) → List (DataW H) → Bool := fun _ ds => decide (uptoBulkAll ds ≤ 1048576)
def OpenSpec.upto (s : _root_.Go.ChangeSpec) : _root_.Go.OpenSpec := { _root_.Go.OpenSpec.ofChange s with cond := some uptoSmall }

/-- 'laws.FnAnyConsumerMemberAssignment', WHERE WHAT IT READS IS OF BULK AT MOST 1048576: true; the input reads as it did. -/
def fnAnyConsumerMemberAssignmentUptoRow : OpenClaim := { program := "ytfbdfieeoobceaadoor", sum := "6757a970af7eeb3a817fb02a72d227e0daaa5aa8dcaf0f13823d0bb1b6bfe831", func := "pub-kmsg/laws.FnAnyConsumerMemberAssignment", spec := "fnAnyConsumerMemberAssignment", recurses := true, named := ["encoding/binary.BigEndian", "pub-kmsg/pub/kmsg/inner/kbin.ErrNotEnoughData"], apart := false, laid := [("pub-kmsg/pub/kmsg/inner/kbin.ErrNotEnoughData", laid_pub_kmsg_pub_kmsg_inner_kbin_ErrNotEnoughData)], narrowed := true }
def FnAnyConsumerMemberAssignmentUptoSaid : Prop := fnAnyConsumerMemberAssignmentUptoRow.holds Tryd.pinned (OpenSpec.upto fnAnyConsumerMemberAssignmentSpec)

/-- 'laws.FnAnyAddOffsetsToTxnResponse', WHERE WHAT IT READS IS OF BULK AT MOST 1048576: true; the input reads as it did. -/
def fnAnyAddOffsetsToTxnResponseUptoRow : OpenClaim := { program := "ytfbdfieeoobceaadoor", sum := "6757a970af7eeb3a817fb02a72d227e0daaa5aa8dcaf0f13823d0bb1b6bfe831", func := "pub-kmsg/laws.FnAnyAddOffsetsToTxnResponse", spec := "fnAnyAddOffsetsToTxnResponse", inPlace := ["internal/reflectlite.ValueOf", "internal/reflectlite.Swapper", "(internal/reflectlite.Value).Len"], unfollowed := true, recurses := true, named := ["encoding/binary.BigEndian", "pub-kmsg/pub/kmsg/inner/kbin.ErrNotEnoughData"], apart := false, laid := [("pub-kmsg/pub/kmsg/inner/kbin.ErrNotEnoughData", laid_pub_kmsg_pub_kmsg_inner_kbin_ErrNotEnoughData)], narrowed := true }
def FnAnyAddOffsetsToTxnResponseUptoSaid : Prop := fnAnyAddOffsetsToTxnResponseUptoRow.holds Tryd.pinned (OpenSpec.upto fnAnyAddOffsetsToTxnResponseSpec)

/-- 'laws.FnAnyHeartbeatResponse', WHERE WHAT IT READS IS OF BULK AT MOST 1048576: true; the input reads as it did. -/
def fnAnyHeartbeatResponseUptoRow : OpenClaim := { program := "ytfbdfieeoobceaadoor", sum := "6757a970af7eeb3a817fb02a72d227e0daaa5aa8dcaf0f13823d0bb1b6bfe831", func := "pub-kmsg/laws.FnAnyHeartbeatResponse", spec := "fnAnyHeartbeatResponse", inPlace := ["internal/reflectlite.ValueOf", "internal/reflectlite.Swapper", "(internal/reflectlite.Value).Len"], unfollowed := true, recurses := true, named := ["encoding/binary.BigEndian", "pub-kmsg/pub/kmsg/inner/kbin.ErrNotEnoughData"], apart := false, laid := [("pub-kmsg/pub/kmsg/inner/kbin.ErrNotEnoughData", laid_pub_kmsg_pub_kmsg_inner_kbin_ErrNotEnoughData)], narrowed := true }
def FnAnyHeartbeatResponseUptoSaid : Prop := fnAnyHeartbeatResponseUptoRow.holds Tryd.pinned (OpenSpec.upto fnAnyHeartbeatResponseSpec)

/-- 'laws.FnAnyListConfigResourcesRequest', WHERE WHAT IT READS IS OF BULK AT MOST 1048576: true; the input reads as it did. -/
def fnAnyListConfigResourcesRequestUptoRow : OpenClaim := { program := "ytfbdfieeoobceaadoor", sum := "6757a970af7eeb3a817fb02a72d227e0daaa5aa8dcaf0f13823d0bb1b6bfe831", func := "pub-kmsg/laws.FnAnyListConfigResourcesRequest", spec := "fnAnyListConfigResourcesRequest", inPlace := ["internal/reflectlite.ValueOf", "internal/reflectlite.Swapper", "(internal/reflectlite.Value).Len"], unfollowed := true, recurses := true, named := ["encoding/binary.BigEndian", "pub-kmsg/pub/kmsg/inner/kbin.ErrNotEnoughData"], apart := false, laid := [("pub-kmsg/pub/kmsg/inner/kbin.ErrNotEnoughData", laid_pub_kmsg_pub_kmsg_inner_kbin_ErrNotEnoughData)], narrowed := true }
def FnAnyListConfigResourcesRequestUptoSaid : Prop := fnAnyListConfigResourcesRequestUptoRow.holds Tryd.pinned (OpenSpec.upto fnAnyListConfigResourcesRequestSpec)

/-- 'laws.FnAnyEnvelopeRequest', WHERE WHAT IT READS IS OF BULK AT MOST 1048576: true; the input reads as it did. -/
def fnAnyEnvelopeRequestUptoRow : OpenClaim := { program := "ytfbdfieeoobceaadoor", sum := "6757a970af7eeb3a817fb02a72d227e0daaa5aa8dcaf0f13823d0bb1b6bfe831", func := "pub-kmsg/laws.FnAnyEnvelopeRequest", spec := "fnAnyEnvelopeRequest", inPlace := ["internal/reflectlite.ValueOf", "internal/reflectlite.Swapper", "(internal/reflectlite.Value).Len"], unfollowed := true, recurses := true, named := ["encoding/binary.BigEndian", "pub-kmsg/pub/kmsg/inner/kbin.ErrNotEnoughData"], apart := false, laid := [("pub-kmsg/pub/kmsg/inner/kbin.ErrNotEnoughData", laid_pub_kmsg_pub_kmsg_inner_kbin_ErrNotEnoughData)], narrowed := true }
def FnAnyEnvelopeRequestUptoSaid : Prop := fnAnyEnvelopeRequestUptoRow.holds Tryd.pinned (OpenSpec.upto fnAnyEnvelopeRequestSpec)

/-- 'laws.FnAnyUpdateRaftVoterResponse', WHERE WHAT IT READS IS OF BULK AT MOST 1048576: true; the input reads as it did. -/
def fnAnyUpdateRaftVoterResponseUptoRow : OpenClaim := { program := "ytfbdfieeoobceaadoor", sum := "6757a970af7eeb3a817fb02a72d227e0daaa5aa8dcaf0f13823d0bb1b6bfe831", func := "pub-kmsg/laws.FnAnyUpdateRaftVoterResponse", spec := "fnAnyUpdateRaftVoterResponse", inPlace := ["internal/reflectlite.ValueOf", "internal/reflectlite.Swapper", "(internal/reflectlite.Value).Len"], unfollowed := true, recurses := true, named := ["encoding/binary.BigEndian", "pub-kmsg/pub/kmsg/inner/kbin.ErrNotEnoughData"], apart := false, laid := [("pub-kmsg/pub/kmsg/inner/kbin.ErrNotEnoughData", laid_pub_kmsg_pub_kmsg_inner_kbin_ErrNotEnoughData)], narrowed := true }
def FnAnyUpdateRaftVoterResponseUptoSaid : Prop := fnAnyUpdateRaftVoterResponseUptoRow.holds Tryd.pinned (OpenSpec.upto fnAnyUpdateRaftVoterResponseSpec)

/-- 'laws.FnAnyReadShareGroupStateSummaryRequest', WHERE WHAT IT READS IS OF BULK AT MOST 1048576: true; the input reads as it did. -/
def fnAnyReadShareGroupStateSummaryRequestUptoRow : OpenClaim := { program := "ytfbdfieeoobceaadoor", sum := "6757a970af7eeb3a817fb02a72d227e0daaa5aa8dcaf0f13823d0bb1b6bfe831", func := "pub-kmsg/laws.FnAnyReadShareGroupStateSummaryRequest", spec := "fnAnyReadShareGroupStateSummaryRequest", inPlace := ["internal/reflectlite.ValueOf", "internal/reflectlite.Swapper", "(internal/reflectlite.Value).Len"], unfollowed := true, recurses := true, named := ["encoding/binary.BigEndian", "pub-kmsg/pub/kmsg/inner/kbin.ErrNotEnoughData"], apart := false, laid := [("pub-kmsg/pub/kmsg/inner/kbin.ErrNotEnoughData", laid_pub_kmsg_pub_kmsg_inner_kbin_ErrNotEnoughData)], narrowed := true }
def FnAnyReadShareGroupStateSummaryRequestUptoSaid : Prop := fnAnyReadShareGroupStateSummaryRequestUptoRow.holds Tryd.pinned (OpenSpec.upto fnAnyReadShareGroupStateSummaryRequestSpec)

/-- 'laws.FnAnyOffsetCommitResponse', WHERE WHAT IT READS IS OF BULK AT MOST 1048576: true; the input reads as it did. -/
def fnAnyOffsetCommitResponseUptoRow : OpenClaim := { program := "ytfbdfieeoobceaadoor", sum := "6757a970af7eeb3a817fb02a72d227e0daaa5aa8dcaf0f13823d0bb1b6bfe831", func := "pub-kmsg/laws.FnAnyOffsetCommitResponse", spec := "fnAnyOffsetCommitResponse", inPlace := ["internal/reflectlite.ValueOf", "internal/reflectlite.Swapper", "(internal/reflectlite.Value).Len"], unfollowed := true, recurses := true, named := ["encoding/binary.BigEndian", "pub-kmsg/pub/kmsg/inner/kbin.ErrNotEnoughData"], apart := false, laid := [("pub-kmsg/pub/kmsg/inner/kbin.ErrNotEnoughData", laid_pub_kmsg_pub_kmsg_inner_kbin_ErrNotEnoughData)], narrowed := true }
def FnAnyOffsetCommitResponseUptoSaid : Prop := fnAnyOffsetCommitResponseUptoRow.holds Tryd.pinned (OpenSpec.upto fnAnyOffsetCommitResponseSpec)

end Rows
end Go.Proofs.YtfbdfieeoobceaaDoor
