/-
  NARROWER THAN 'FOR EVERY INPUT', by the rows' own cells (each row's printed sentence says how): FnAnyConsumerMemberAssignment: laid · FnCutPushTelemetryRequest: loops, laid · FnAnyUpdateRaftVoterResponse: laid · FnAnyBeginQuorumEpochResponse: laid.
  DERIVED. THE GIVEN ROWS OF THIS SEAT. 4 by the template 'for every input the law returns true; each argument reads behind the call as it read before'; 0 by the template 'total and deterministic' (their statements: YtlbojjkfjhnaaaaDoorTotals.lean).
  GIVEN WITH THE SEED: the statements are not yours to turn. If you find one false, say at which input.
  Laid BY PROGRAM, IN A SANDBOX (cutbox-rows.mjs): the forced cells as the released guide's own fill.sh prints them over the translation fadc9a35120d775d… (all of the seat's roots in one cut). By AI agents, Wed Nov 11 2026. No macro, syntax, notation, axiom, sorry.
-/
import Derived.Test.YtlbojjkfjhnaaaaDoorChecked
import GoSem.Claim
import GoSem.ClaimJoined
import GoSem.ClaimMapViews
import Derived.JoinedTies
import Derived.KernelRfl
namespace Go.Proofs.YtlbojjkfjhnaaaaDoor
/- THE CELL 'sum', in the pinned program and in every row, IS THE sha256 OF THE DUMP (.gsa) THAT YtlbojjkfjhnaaaaDoorProg.lean LOADS. Nothing in Lean hashes anything: it is a label: what it is worth is what the hold of that sum in a sandbox is worth. -/
noncomputable def Tryd.pinned : Pinned := { name := "ytlbojjkfjhnaaaadoor", sum := "fadc9a35120d775d51c6d60a7ac0173c34f7f32cfadc76a79d3bdb25c5179aa7", checked := Tryd.checked }
namespace Rows
def none {H : Type} : Left H := { results := [], args := [] }

/- WHAT THE LISTED PACKAGE-LEVEL VARIABLES READ AS WHEN THE CALL BEGINS. Each datum BY PROGRAM (the guide's laid-datum.mjs) off the statement by which the dump's own 'gosem.cut.vars' lays the variable. In a bare row this is a premise. The card (YtlbojjkfjhnaaaaDoorCards.lean) ties it to the program's text. -/
def laid_pub_kmsg_pub_kmsg_inner_kbin_ErrNotEnoughData {H : Type} : DataW H := .iface "*errors.errorString" (.ptr (.agg [.lit (.string [114, 101, 115, 112, 111, 110, 115, 101, 32, 100, 105, 100, 32, 110, 111, 116, 32, 99, 111, 110, 116, 97, 105, 110, 32, 101, 110, 111, 117, 103, 104, 32, 100, 97, 116, 97, 32, 116, 111, 32, 98, 101, 32, 118, 97, 108, 105, 100])]))

/-- 'laws.FnAnyConsumerMemberAssignment': WHATEVER THE INPUT: true; the input reads as it did. -/
def fnAnyConsumerMemberAssignmentSpec : ChangeSpec := { name := "fnAnyConsumerMemberAssignment", fn := fun _ => fun
  | [d] => { results := [.lit (.bool true)], args := [d] }
  | _ => none }
def fnAnyConsumerMemberAssignmentRow : OpenClaim := { program := "ytlbojjkfjhnaaaadoor", sum := "fadc9a35120d775d51c6d60a7ac0173c34f7f32cfadc76a79d3bdb25c5179aa7", func := "pub-kmsg/laws.FnAnyConsumerMemberAssignment", spec := "fnAnyConsumerMemberAssignment", recurses := true, named := ["encoding/binary.BigEndian", "pub-kmsg/pub/kmsg/inner/kbin.ErrNotEnoughData"], apart := false, laid := [("pub-kmsg/pub/kmsg/inner/kbin.ErrNotEnoughData", laid_pub_kmsg_pub_kmsg_inner_kbin_ErrNotEnoughData)] }
def FnAnyConsumerMemberAssignmentSaid : Prop := fnAnyConsumerMemberAssignmentRow.holds Tryd.pinned (OpenSpec.ofChange fnAnyConsumerMemberAssignmentSpec)

/-- ITS FALSE NEIGHBOUR: 'it returns false'. Refute it at one input. -/
def fnAnyConsumerMemberAssignmentWrong : ChangeSpec := { name := "fnAnyConsumerMemberAssignment", fn := fun _ => fun
  | [d] => { results := [.lit (.bool false)], args := [d] }
  | _ => none }
def FnAnyConsumerMemberAssignmentWrongFalsely : Prop := fnAnyConsumerMemberAssignmentRow.holds Tryd.pinned (OpenSpec.ofChange fnAnyConsumerMemberAssignmentWrong)

/-- 'laws.FnCutPushTelemetryRequest': WHATEVER THE INPUT: true; the input reads as it did. -/
def fnCutPushTelemetryRequestSpec : ChangeSpec := { name := "fnCutPushTelemetryRequest", fn := fun _ => fun
  | [d1, d2, d3] => { results := [.lit (.bool true)], args := [d1, d2, d3] }
  | _ => none }
def fnCutPushTelemetryRequestRow : OpenClaim := { program := "ytlbojjkfjhnaaaadoor", sum := "fadc9a35120d775d51c6d60a7ac0173c34f7f32cfadc76a79d3bdb25c5179aa7", func := "pub-kmsg/laws.FnCutPushTelemetryRequest", spec := "fnCutPushTelemetryRequest", inPlace := ["internal/reflectlite.ValueOf", "internal/reflectlite.Swapper", "(internal/reflectlite.Value).Len"], unfollowed := true, recurses := true, named := ["encoding/binary.BigEndian", "pub-kmsg/pub/kmsg/inner/kbin.ErrNotEnoughData"], loops := true, apart := false, laid := [("pub-kmsg/pub/kmsg/inner/kbin.ErrNotEnoughData", laid_pub_kmsg_pub_kmsg_inner_kbin_ErrNotEnoughData)] }
def FnCutPushTelemetryRequestSaid : Prop := fnCutPushTelemetryRequestRow.holds Tryd.pinned (OpenSpec.ofChange fnCutPushTelemetryRequestSpec)

/-- ITS FALSE NEIGHBOUR: 'it returns false'. Refute it at one input. -/
def fnCutPushTelemetryRequestWrong : ChangeSpec := { name := "fnCutPushTelemetryRequest", fn := fun _ => fun
  | [d1, d2, d3] => { results := [.lit (.bool false)], args := [d1, d2, d3] }
  | _ => none }
def FnCutPushTelemetryRequestWrongFalsely : Prop := fnCutPushTelemetryRequestRow.holds Tryd.pinned (OpenSpec.ofChange fnCutPushTelemetryRequestWrong)

/-- 'laws.FnAnyUpdateRaftVoterResponse': WHATEVER THE INPUT: true; the input reads as it did. -/
def fnAnyUpdateRaftVoterResponseSpec : ChangeSpec := { name := "fnAnyUpdateRaftVoterResponse", fn := fun _ => fun
  | [d1, d2] => { results := [.lit (.bool true)], args := [d1, d2] }
  | _ => none }
def fnAnyUpdateRaftVoterResponseRow : OpenClaim := { program := "ytlbojjkfjhnaaaadoor", sum := "fadc9a35120d775d51c6d60a7ac0173c34f7f32cfadc76a79d3bdb25c5179aa7", func := "pub-kmsg/laws.FnAnyUpdateRaftVoterResponse", spec := "fnAnyUpdateRaftVoterResponse", inPlace := ["internal/reflectlite.ValueOf", "internal/reflectlite.Swapper", "(internal/reflectlite.Value).Len"], unfollowed := true, recurses := true, named := ["encoding/binary.BigEndian", "pub-kmsg/pub/kmsg/inner/kbin.ErrNotEnoughData"], apart := false, laid := [("pub-kmsg/pub/kmsg/inner/kbin.ErrNotEnoughData", laid_pub_kmsg_pub_kmsg_inner_kbin_ErrNotEnoughData)] }
def FnAnyUpdateRaftVoterResponseSaid : Prop := fnAnyUpdateRaftVoterResponseRow.holds Tryd.pinned (OpenSpec.ofChange fnAnyUpdateRaftVoterResponseSpec)

/-- ITS FALSE NEIGHBOUR: 'it returns false'. Refute it at one input. -/
def fnAnyUpdateRaftVoterResponseWrong : ChangeSpec := { name := "fnAnyUpdateRaftVoterResponse", fn := fun _ => fun
  | [d1, d2] => { results := [.lit (.bool false)], args := [d1, d2] }
  | _ => none }
def FnAnyUpdateRaftVoterResponseWrongFalsely : Prop := fnAnyUpdateRaftVoterResponseRow.holds Tryd.pinned (OpenSpec.ofChange fnAnyUpdateRaftVoterResponseWrong)

/-- 'laws.FnAnyBeginQuorumEpochResponse': WHATEVER THE INPUT: true; the input reads as it did. -/
def fnAnyBeginQuorumEpochResponseSpec : ChangeSpec := { name := "fnAnyBeginQuorumEpochResponse", fn := fun _ => fun
  | [d1, d2] => { results := [.lit (.bool true)], args := [d1, d2] }
  | _ => none }
def fnAnyBeginQuorumEpochResponseRow : OpenClaim := { program := "ytlbojjkfjhnaaaadoor", sum := "fadc9a35120d775d51c6d60a7ac0173c34f7f32cfadc76a79d3bdb25c5179aa7", func := "pub-kmsg/laws.FnAnyBeginQuorumEpochResponse", spec := "fnAnyBeginQuorumEpochResponse", inPlace := ["internal/reflectlite.ValueOf", "internal/reflectlite.Swapper", "(internal/reflectlite.Value).Len"], unfollowed := true, recurses := true, named := ["encoding/binary.BigEndian", "pub-kmsg/pub/kmsg/inner/kbin.ErrNotEnoughData"], apart := false, laid := [("pub-kmsg/pub/kmsg/inner/kbin.ErrNotEnoughData", laid_pub_kmsg_pub_kmsg_inner_kbin_ErrNotEnoughData)] }
def FnAnyBeginQuorumEpochResponseSaid : Prop := fnAnyBeginQuorumEpochResponseRow.holds Tryd.pinned (OpenSpec.ofChange fnAnyBeginQuorumEpochResponseSpec)

/-- ITS FALSE NEIGHBOUR: 'it returns false'. Refute it at one input. -/
def fnAnyBeginQuorumEpochResponseWrong : ChangeSpec := { name := "fnAnyBeginQuorumEpochResponse", fn := fun _ => fun
  | [d1, d2] => { results := [.lit (.bool false)], args := [d1, d2] }
  | _ => none }
def FnAnyBeginQuorumEpochResponseWrongFalsely : Prop := fnAnyBeginQuorumEpochResponseRow.holds Tryd.pinned (OpenSpec.ofChange fnAnyBeginQuorumEpochResponseWrong)

/- THE SECOND FORM. 'bulk': how many values and letters a reading holds, each counted each time it is reached (what is shared counts as often as it is met; a slice's spare places count too). A statement '..UptoSaid' is the law's where the arguments, and the package variables that the reading takes, are together of bulk at most 1048576: NARROWER than '..Said'. Prove '..Said' where nothing that the law and all that it calls make is longer than what came in: it says more and counts as full. Else prove '..UptoSaid'. A law counts once. -/
mutual
def uptoBulk {H : Type} : DataW H → Nat
  | .lit (.string bytes) => bytes.length + 1
  | .lit _ => 1
  | .nil => 1
  | .ptr d => uptoBulk d + 1
  | .slice elems spare => uptoBulkAll elems + uptoBulkAll spare + 1
  | .agg parts => uptoBulkAll parts + 1
  | .iface _ d => uptoBulk d + 1
  | .map entries => uptoBulkEntries entries + 1
  | .held _ => 1
def uptoBulkAll {H : Type} : List (DataW H) → Nat
  | [] => 0
  | d :: r => uptoBulk d + uptoBulkAll r
def uptoBulkEntries {H : Type} : List (Lit × DataW H) → Nat
  | [] => 0
  | x :: r => uptoBulkEntry x + uptoBulkEntries r
def uptoBulkEntry {H : Type} : Lit × DataW H → Nat
  | (.string bytes, d) => bytes.length + uptoBulk d + 1
  | (_, d) => uptoBulk d + 1
 end
def uptoSmall : (H : Type) → List (DataW H) → Bool := fun _ ds => decide (uptoBulkAll ds ≤ 1048576)
def OpenSpec.upto (s : _root_.Go.ChangeSpec) : _root_.Go.OpenSpec := { _root_.Go.OpenSpec.ofChange s with cond := some uptoSmall }

/-- 'laws.FnAnyConsumerMemberAssignment', WHERE WHAT IT READS IS OF BULK AT MOST 1048576: true; the input reads as it did. -/
def fnAnyConsumerMemberAssignmentUptoRow : OpenClaim := { program := "ytlbojjkfjhnaaaadoor", sum := "fadc9a35120d775d51c6d60a7ac0173c34f7f32cfadc76a79d3bdb25c5179aa7", func := "pub-kmsg/laws.FnAnyConsumerMemberAssignment", spec := "fnAnyConsumerMemberAssignment", recurses := true, named := ["encoding/binary.BigEndian", "pub-kmsg/pub/kmsg/inner/kbin.ErrNotEnoughData"], apart := false, laid := [("pub-kmsg/pub/kmsg/inner/kbin.ErrNotEnoughData", laid_pub_kmsg_pub_kmsg_inner_kbin_ErrNotEnoughData)], narrowed := true }
def FnAnyConsumerMemberAssignmentUptoSaid : Prop := fnAnyConsumerMemberAssignmentUptoRow.holds Tryd.pinned (OpenSpec.upto fnAnyConsumerMemberAssignmentSpec)

/-- 'laws.FnCutPushTelemetryRequest', WHERE WHAT IT READS IS OF BULK AT MOST 1048576: true; the input reads as it did. -/
def fnCutPushTelemetryRequestUptoRow : OpenClaim := { program := "ytlbojjkfjhnaaaadoor", sum := "fadc9a35120d775d51c6d60a7ac0173c34f7f32cfadc76a79d3bdb25c5179aa7", func := "pub-kmsg/laws.FnCutPushTelemetryRequest", spec := "fnCutPushTelemetryRequest", inPlace := ["internal/reflectlite.ValueOf", "internal/reflectlite.Swapper", "(internal/reflectlite.Value).Len"], unfollowed := true, recurses := true, named := ["encoding/binary.BigEndian", "pub-kmsg/pub/kmsg/inner/kbin.ErrNotEnoughData"], loops := true, apart := false, laid := [("pub-kmsg/pub/kmsg/inner/kbin.ErrNotEnoughData", laid_pub_kmsg_pub_kmsg_inner_kbin_ErrNotEnoughData)], narrowed := true }
def FnCutPushTelemetryRequestUptoSaid : Prop := fnCutPushTelemetryRequestUptoRow.holds Tryd.pinned (OpenSpec.upto fnCutPushTelemetryRequestSpec)

/-- 'laws.FnAnyUpdateRaftVoterResponse', WHERE WHAT IT READS IS OF BULK AT MOST 1048576: true; the input reads as it did. -/
def fnAnyUpdateRaftVoterResponseUptoRow : OpenClaim := { program := "ytlbojjkfjhnaaaadoor", sum := "fadc9a35120d775d51c6d60a7ac0173c34f7f32cfadc76a79d3bdb25c5179aa7", func := "pub-kmsg/laws.FnAnyUpdateRaftVoterResponse", spec := "fnAnyUpdateRaftVoterResponse", inPlace := ["internal/reflectlite.ValueOf", "internal/reflectlite.Swapper", "(internal/reflectlite.Value).Len"], unfollowed := true, recurses := true, named := ["encoding/binary.BigEndian", "pub-kmsg/pub/kmsg/inner/kbin.ErrNotEnoughData"], apart := false, laid := [("pub-kmsg/pub/kmsg/inner/kbin.ErrNotEnoughData", laid_pub_kmsg_pub_kmsg_inner_kbin_ErrNotEnoughData)], narrowed := true }
def FnAnyUpdateRaftVoterResponseUptoSaid : Prop := fnAnyUpdateRaftVoterResponseUptoRow.holds Tryd.pinned (OpenSpec.upto fnAnyUpdateRaftVoterResponseSpec)

/-- 'laws.FnAnyBeginQuorumEpochResponse', WHERE WHAT IT READS IS OF BULK AT MOST 1048576: true; the input reads as it did. -/
def fnAnyBeginQuorumEpochResponseUptoRow : OpenClaim := { program := "ytlbojjkfjhnaaaadoor", sum := "fadc9a35120d775d51c6d60a7ac0173c34f7f32cfadc76a79d3bdb25c5179aa7", func := "pub-kmsg/laws.FnAnyBeginQuorumEpochResponse", spec := "fnAnyBeginQuorumEpochResponse", inPlace := ["internal/reflectlite.ValueOf", "internal/reflectlite.Swapper", "(internal/reflectlite.Value).Len"], unfollowed := true, recurses := true, named := ["encoding/binary.BigEndian", "pub-kmsg/pub/kmsg/inner/kbin.ErrNotEnoughData"], apart := false, laid := [("pub-kmsg/pub/kmsg/inner/kbin.ErrNotEnoughData", laid_pub_kmsg_pub_kmsg_inner_kbin_ErrNotEnoughData)], narrowed := true }
def FnAnyBeginQuorumEpochResponseUptoSaid : Prop := fnAnyBeginQuorumEpochResponseUptoRow.holds Tryd.pinned (OpenSpec.upto fnAnyBeginQuorumEpochResponseSpec)

end Rows
end Go.Proofs.YtlbojjkfjhnaaaaDoor
