/-
  NARROWER THAN 'FOR EVERY INPUT', by the rows' own cells (each row's printed sentence says how): FnCutOffsetCommitValue: loops, laid · FnCutDeleteACLsResponse: loops, laid · FnCutApiVersionsResponse: loops, laid · FnCutEndQuorumEpochRequest: loops, laid · FnAgainDescribeGroupsResponse: loops, laid · FnAnyShareFetchResponse: laid.
  DERIVED. THE GIVEN ROWS OF THIS SEAT. 6 by the template 'for every input the law returns true; each argument reads behind the call as it read before'; 0 by the template 'total and deterministic' (their statements: YtlbojjkfjhnaaaaGreatDoorTotals.lean).
  GIVEN WITH THE SEED: the statements are not yours to turn. If you find one false, say at which input.
  Laid BY PROGRAM, IN A SANDBOX (cutbox-rows.mjs): the forced cells as the released guide's own fill.sh prints them over the translation 47fb29544f622708… (all of the seat's roots in one cut). By AI agents, Wed Nov 11 2026. No macro, syntax, notation, axiom, sorry.
-/
import Derived.Test.YtlbojjkfjhnaaaaGreatDoorChecked
import GoSem.Claim
import GoSem.ClaimJoined
import GoSem.ClaimMapViews
import Derived.JoinedTies
import Derived.KernelRfl
namespace Go.Proofs.YtlbojjkfjhnaaaaGreatDoor
/- THE CELL 'sum', in the pinned program and in every row, IS THE sha256 OF THE DUMP (.gsa) THAT YtlbojjkfjhnaaaaGreatDoorProg.lean LOADS. Nothing in Lean hashes anything: it is a label: what it is worth is what the hold of that sum in a sandbox is worth. -/
noncomputable def Tryz.pinned : Pinned := { name := "ytlbojjkfjhnaaaagreatdoor", sum := "47fb29544f622708dac150b0eac0e5a697ed083fa8349231eb0ae62d9afcdd30", checked := Tryz.checked }
namespace Rows
def none {H : Type} : Left H := { results := [], args := [] }

/- WHAT THE LISTED PACKAGE-LEVEL VARIABLES READ AS WHEN THE CALL BEGINS. Each datum BY PROGRAM (the guide's laid-datum.mjs) off the statement by which the dump's own 'gosem.cut.vars' lays the variable. In a bare row this is a premise. The card (YtlbojjkfjhnaaaaGreatDoorCards.lean) ties it to the program's text. -/
def laid_pub_kmsg_pub_kmsg_inner_kbin_ErrNotEnoughData {H : Type} : DataW H := .iface "*errors.errorString" (.ptr (.agg [.lit (.string [114, 101, 115, 112, 111, 110, 115, 101, 32, 100, 105, 100, 32, 110, 111, 116, 32, 99, 111, 110, 116, 97, 105, 110, 32, 101, 110, 111, 117, 103, 104, 32, 100, 97, 116, 97, 32, 116, 111, 32, 98, 101, 32, 118, 97, 108, 105, 100])]))

/-- 'laws.FnCutOffsetCommitValue': WHATEVER THE INPUT: true; the input reads as it did. -/
def fnCutOffsetCommitValueSpec : ChangeSpec := { name := "fnCutOffsetCommitValue", fn := fun _ => fun
  | [d1, d2, d3] => { results := [.lit (.bool true)], args := [d1, d2, d3] }
  | _ => none }
def fnCutOffsetCommitValueRow : OpenClaim := { program := "ytlbojjkfjhnaaaagreatdoor", sum := "47fb29544f622708dac150b0eac0e5a697ed083fa8349231eb0ae62d9afcdd30", func := "pub-kmsg/laws.FnCutOffsetCommitValue", spec := "fnCutOffsetCommitValue", inPlace := ["internal/reflectlite.ValueOf", "internal/reflectlite.Swapper", "(internal/reflectlite.Value).Len"], unfollowed := true, recurses := true, named := ["encoding/binary.BigEndian", "pub-kmsg/pub/kmsg/inner/kbin.ErrNotEnoughData"], loops := true, apart := false, laid := [("pub-kmsg/pub/kmsg/inner/kbin.ErrNotEnoughData", laid_pub_kmsg_pub_kmsg_inner_kbin_ErrNotEnoughData)] }
def FnCutOffsetCommitValueSaid : Prop := fnCutOffsetCommitValueRow.holds Tryz.pinned (OpenSpec.ofChange fnCutOffsetCommitValueSpec)

/-- ITS FALSE NEIGHBOUR: 'it returns false'. Refute it at one input. -/
def fnCutOffsetCommitValueWrong : ChangeSpec := { name := "fnCutOffsetCommitValue", fn := fun _ => fun
  | [d1, d2, d3] => { results := [.lit (.bool false)], args := [d1, d2, d3] }
  | _ => none }
def FnCutOffsetCommitValueWrongFalsely : Prop := fnCutOffsetCommitValueRow.holds Tryz.pinned (OpenSpec.ofChange fnCutOffsetCommitValueWrong)

/-- 'laws.FnCutDeleteACLsResponse': WHATEVER THE INPUT: true; the input reads as it did. -/
def fnCutDeleteACLsResponseSpec : ChangeSpec := { name := "fnCutDeleteACLsResponse", fn := fun _ => fun
  | [d1, d2, d3] => { results := [.lit (.bool true)], args := [d1, d2, d3] }
  | _ => none }
def fnCutDeleteACLsResponseRow : OpenClaim := { program := "ytlbojjkfjhnaaaagreatdoor", sum := "47fb29544f622708dac150b0eac0e5a697ed083fa8349231eb0ae62d9afcdd30", func := "pub-kmsg/laws.FnCutDeleteACLsResponse", spec := "fnCutDeleteACLsResponse", inPlace := ["internal/reflectlite.ValueOf", "internal/reflectlite.Swapper", "(internal/reflectlite.Value).Len"], unfollowed := true, recurses := true, named := ["encoding/binary.BigEndian", "pub-kmsg/pub/kmsg/inner/kbin.ErrNotEnoughData"], loops := true, apart := false, laid := [("pub-kmsg/pub/kmsg/inner/kbin.ErrNotEnoughData", laid_pub_kmsg_pub_kmsg_inner_kbin_ErrNotEnoughData)] }
def FnCutDeleteACLsResponseSaid : Prop := fnCutDeleteACLsResponseRow.holds Tryz.pinned (OpenSpec.ofChange fnCutDeleteACLsResponseSpec)

/-- ITS FALSE NEIGHBOUR: 'it returns false'. Refute it at one input. -/
def fnCutDeleteACLsResponseWrong : ChangeSpec := { name := "fnCutDeleteACLsResponse", fn := fun _ => fun
  | [d1, d2, d3] => { results := [.lit (.bool false)], args := [d1, d2, d3] }
  | _ => none }
def FnCutDeleteACLsResponseWrongFalsely : Prop := fnCutDeleteACLsResponseRow.holds Tryz.pinned (OpenSpec.ofChange fnCutDeleteACLsResponseWrong)

/-- 'laws.FnCutApiVersionsResponse': WHATEVER THE INPUT: true; the input reads as it did. -/
def fnCutApiVersionsResponseSpec : ChangeSpec := { name := "fnCutApiVersionsResponse", fn := fun _ => fun
  | [d1, d2, d3] => { results := [.lit (.bool true)], args := [d1, d2, d3] }
  | _ => none }
def fnCutApiVersionsResponseRow : OpenClaim := { program := "ytlbojjkfjhnaaaagreatdoor", sum := "47fb29544f622708dac150b0eac0e5a697ed083fa8349231eb0ae62d9afcdd30", func := "pub-kmsg/laws.FnCutApiVersionsResponse", spec := "fnCutApiVersionsResponse", inPlace := ["internal/reflectlite.ValueOf", "internal/reflectlite.Swapper", "(internal/reflectlite.Value).Len"], unfollowed := true, recurses := true, named := ["encoding/binary.BigEndian", "pub-kmsg/pub/kmsg/inner/kbin.ErrNotEnoughData"], loops := true, apart := false, laid := [("pub-kmsg/pub/kmsg/inner/kbin.ErrNotEnoughData", laid_pub_kmsg_pub_kmsg_inner_kbin_ErrNotEnoughData)] }
def FnCutApiVersionsResponseSaid : Prop := fnCutApiVersionsResponseRow.holds Tryz.pinned (OpenSpec.ofChange fnCutApiVersionsResponseSpec)

/-- ITS FALSE NEIGHBOUR: 'it returns false'. Refute it at one input. -/
def fnCutApiVersionsResponseWrong : ChangeSpec := { name := "fnCutApiVersionsResponse", fn := fun _ => fun
  | [d1, d2, d3] => { results := [.lit (.bool false)], args := [d1, d2, d3] }
  | _ => none }
def FnCutApiVersionsResponseWrongFalsely : Prop := fnCutApiVersionsResponseRow.holds Tryz.pinned (OpenSpec.ofChange fnCutApiVersionsResponseWrong)

/-- 'laws.FnCutEndQuorumEpochRequest': WHATEVER THE INPUT: true; the input reads as it did. -/
def fnCutEndQuorumEpochRequestSpec : ChangeSpec := { name := "fnCutEndQuorumEpochRequest", fn := fun _ => fun
  | [d1, d2, d3] => { results := [.lit (.bool true)], args := [d1, d2, d3] }
  | _ => none }
def fnCutEndQuorumEpochRequestRow : OpenClaim := { program := "ytlbojjkfjhnaaaagreatdoor", sum := "47fb29544f622708dac150b0eac0e5a697ed083fa8349231eb0ae62d9afcdd30", func := "pub-kmsg/laws.FnCutEndQuorumEpochRequest", spec := "fnCutEndQuorumEpochRequest", inPlace := ["internal/reflectlite.ValueOf", "internal/reflectlite.Swapper", "(internal/reflectlite.Value).Len"], unfollowed := true, recurses := true, named := ["encoding/binary.BigEndian", "pub-kmsg/pub/kmsg/inner/kbin.ErrNotEnoughData"], loops := true, apart := false, laid := [("pub-kmsg/pub/kmsg/inner/kbin.ErrNotEnoughData", laid_pub_kmsg_pub_kmsg_inner_kbin_ErrNotEnoughData)] }
def FnCutEndQuorumEpochRequestSaid : Prop := fnCutEndQuorumEpochRequestRow.holds Tryz.pinned (OpenSpec.ofChange fnCutEndQuorumEpochRequestSpec)

/-- ITS FALSE NEIGHBOUR: 'it returns false'. Refute it at one input. -/
def fnCutEndQuorumEpochRequestWrong : ChangeSpec := { name := "fnCutEndQuorumEpochRequest", fn := fun _ => fun
  | [d1, d2, d3] => { results := [.lit (.bool false)], args := [d1, d2, d3] }
  | _ => none }
def FnCutEndQuorumEpochRequestWrongFalsely : Prop := fnCutEndQuorumEpochRequestRow.holds Tryz.pinned (OpenSpec.ofChange fnCutEndQuorumEpochRequestWrong)

/-- 'laws.FnAgainDescribeGroupsResponse': WHATEVER THE INPUT: true; the input reads as it did. -/
def fnAgainDescribeGroupsResponseSpec : ChangeSpec := { name := "fnAgainDescribeGroupsResponse", fn := fun _ => fun
  | [d1, d2] => { results := [.lit (.bool true)], args := [d1, d2] }
  | _ => none }
def fnAgainDescribeGroupsResponseRow : OpenClaim := { program := "ytlbojjkfjhnaaaagreatdoor", sum := "47fb29544f622708dac150b0eac0e5a697ed083fa8349231eb0ae62d9afcdd30", func := "pub-kmsg/laws.FnAgainDescribeGroupsResponse", spec := "fnAgainDescribeGroupsResponse", inPlace := ["internal/reflectlite.ValueOf", "internal/reflectlite.Swapper", "(internal/reflectlite.Value).Len"], unfollowed := true, recurses := true, named := ["encoding/binary.BigEndian", "pub-kmsg/pub/kmsg/inner/kbin.ErrNotEnoughData"], loops := true, apart := false, laid := [("pub-kmsg/pub/kmsg/inner/kbin.ErrNotEnoughData", laid_pub_kmsg_pub_kmsg_inner_kbin_ErrNotEnoughData)] }
def FnAgainDescribeGroupsResponseSaid : Prop := fnAgainDescribeGroupsResponseRow.holds Tryz.pinned (OpenSpec.ofChange fnAgainDescribeGroupsResponseSpec)

/-- ITS FALSE NEIGHBOUR: 'it returns false'. Refute it at one input. -/
def fnAgainDescribeGroupsResponseWrong : ChangeSpec := { name := "fnAgainDescribeGroupsResponse", fn := fun _ => fun
  | [d1, d2] => { results := [.lit (.bool false)], args := [d1, d2] }
  | _ => none }
def FnAgainDescribeGroupsResponseWrongFalsely : Prop := fnAgainDescribeGroupsResponseRow.holds Tryz.pinned (OpenSpec.ofChange fnAgainDescribeGroupsResponseWrong)

/-- 'laws.FnAnyShareFetchResponse': WHATEVER THE INPUT: true; the input reads as it did. -/
def fnAnyShareFetchResponseSpec : ChangeSpec := { name := "fnAnyShareFetchResponse", fn := fun _ => fun
  | [d1, d2] => { results := [.lit (.bool true)], args := [d1, d2] }
  | _ => none }
def fnAnyShareFetchResponseRow : OpenClaim := { program := "ytlbojjkfjhnaaaagreatdoor", sum := "47fb29544f622708dac150b0eac0e5a697ed083fa8349231eb0ae62d9afcdd30", func := "pub-kmsg/laws.FnAnyShareFetchResponse", spec := "fnAnyShareFetchResponse", inPlace := ["internal/reflectlite.ValueOf", "internal/reflectlite.Swapper", "(internal/reflectlite.Value).Len"], unfollowed := true, recurses := true, named := ["encoding/binary.BigEndian", "pub-kmsg/pub/kmsg/inner/kbin.ErrNotEnoughData"], apart := false, laid := [("pub-kmsg/pub/kmsg/inner/kbin.ErrNotEnoughData", laid_pub_kmsg_pub_kmsg_inner_kbin_ErrNotEnoughData)] }
def FnAnyShareFetchResponseSaid : Prop := fnAnyShareFetchResponseRow.holds Tryz.pinned (OpenSpec.ofChange fnAnyShareFetchResponseSpec)

/-- ITS FALSE NEIGHBOUR: 'it returns false'. Refute it at one input. -/
def fnAnyShareFetchResponseWrong : ChangeSpec := { name := "fnAnyShareFetchResponse", fn := fun _ => fun
  | [d1, d2] => { results := [.lit (.bool false)], args := [d1, d2] }
  | _ => none }
def FnAnyShareFetchResponseWrongFalsely : Prop := fnAnyShareFetchResponseRow.holds Tryz.pinned (OpenSpec.ofChange fnAnyShareFetchResponseWrong)

/- THE SECOND FORM. 'bulk': how many values and letters a reading holds, each counted each time it is reached (what is shared counts as often as it is met; a slice's spare places count too). A statement '..UptoSaid' is the law's where the arguments, and the package variables that the reading takes, are together of bulk at most 1048576: NARROWER than '..Said'. Prove '..Said' where nothing that the law and all that it calls make is longer than what came in: it says more and counts as full. Else prove '..UptoSaid'. A law counts once. -/
mutual
def uptoBulk {H : Type} : DataW H → Nat
  | .lit (.string bytes) => bytes.length + 1
  | .lit _ => 1
  | .nil => 1
  | .ptr d => uptoBulk d + 1
  | .slice elems spare => uptoBulkAll elems + uptoBulkAll spare + 1
  | .agg parts => uptoBulkAll parts + 1
  | .iface _ d => uptoBulk d + 1
  | .map entries => uptoBulkEntries entries + 1
  | .held _ => 1
def uptoBulkAll {H : Type} : List (DataW H) → Nat
  | [] => 0
  | d :: r => uptoBulk d + uptoBulkAll r
def uptoBulkEntries {H : Type} : List (Lit × DataW H) → Nat
  | [] => 0
  | x :: r => uptoBulkEntry x + uptoBulkEntries r
def uptoBulkEntry {H : Type} : Lit × DataW H → Nat
  | (.string bytes, d) => bytes.length + uptoBulk d + 1
  | (_, d) => uptoBulk d + 1
 end
def uptoSmall : (H : Type) → List (DataW H) → Bool := fun _ ds => decide (uptoBulkAll ds ≤ 1048576)
def OpenSpec.upto (s : _root_.Go.ChangeSpec) : _root_.Go.OpenSpec := { _root_.Go.OpenSpec.ofChange s with cond := some uptoSmall }

/-- 'laws.FnCutOffsetCommitValue', WHERE WHAT IT READS IS OF BULK AT MOST 1048576: true; the input reads as it did. -/
def fnCutOffsetCommitValueUptoRow : OpenClaim := { program := "ytlbojjkfjhnaaaagreatdoor", sum := "47fb29544f622708dac150b0eac0e5a697ed083fa8349231eb0ae62d9afcdd30", func := "pub-kmsg/laws.FnCutOffsetCommitValue", spec := "fnCutOffsetCommitValue", inPlace := ["internal/reflectlite.ValueOf", "internal/reflectlite.Swapper", "(internal/reflectlite.Value).Len"], unfollowed := true, recurses := true, named := ["encoding/binary.BigEndian", "pub-kmsg/pub/kmsg/inner/kbin.ErrNotEnoughData"], loops := true, apart := false, laid := [("pub-kmsg/pub/kmsg/inner/kbin.ErrNotEnoughData", laid_pub_kmsg_pub_kmsg_inner_kbin_ErrNotEnoughData)], narrowed := true }
def FnCutOffsetCommitValueUptoSaid : Prop := fnCutOffsetCommitValueUptoRow.holds Tryz.pinned (OpenSpec.upto fnCutOffsetCommitValueSpec)

/-- 'laws.FnCutDeleteACLsResponse', WHERE WHAT IT READS IS OF BULK AT MOST 1048576: true; the input reads as it did. -/
def fnCutDeleteACLsResponseUptoRow : OpenClaim := { program := "ytlbojjkfjhnaaaagreatdoor", sum := "47fb29544f622708dac150b0eac0e5a697ed083fa8349231eb0ae62d9afcdd30", func := "pub-kmsg/laws.FnCutDeleteACLsResponse", spec := "fnCutDeleteACLsResponse", inPlace := ["internal/reflectlite.ValueOf", "internal/reflectlite.Swapper", "(internal/reflectlite.Value).Len"], unfollowed := true, recurses := true, named := ["encoding/binary.BigEndian", "pub-kmsg/pub/kmsg/inner/kbin.ErrNotEnoughData"], loops := true, apart := false, laid := [("pub-kmsg/pub/kmsg/inner/kbin.ErrNotEnoughData", laid_pub_kmsg_pub_kmsg_inner_kbin_ErrNotEnoughData)], narrowed := true }
def FnCutDeleteACLsResponseUptoSaid : Prop := fnCutDeleteACLsResponseUptoRow.holds Tryz.pinned (OpenSpec.upto fnCutDeleteACLsResponseSpec)

/-- 'laws.FnCutApiVersionsResponse', WHERE WHAT IT READS IS OF BULK AT MOST 1048576: true; the input reads as it did. -/
def fnCutApiVersionsResponseUptoRow : OpenClaim := { program := "ytlbojjkfjhnaaaagreatdoor", sum := "47fb29544f622708dac150b0eac0e5a697ed083fa8349231eb0ae62d9afcdd30", func := "pub-kmsg/laws.FnCutApiVersionsResponse", spec := "fnCutApiVersionsResponse", inPlace := ["internal/reflectlite.ValueOf", "internal/reflectlite.Swapper", "(internal/reflectlite.Value).Len"], unfollowed := true, recurses := true, named := ["encoding/binary.BigEndian", "pub-kmsg/pub/kmsg/inner/kbin.ErrNotEnoughData"], loops := true, apart := false, laid := [("pub-kmsg/pub/kmsg/inner/kbin.ErrNotEnoughData", laid_pub_kmsg_pub_kmsg_inner_kbin_ErrNotEnoughData)], narrowed := true }
def FnCutApiVersionsResponseUptoSaid : Prop := fnCutApiVersionsResponseUptoRow.holds Tryz.pinned (OpenSpec.upto fnCutApiVersionsResponseSpec)

/-- 'laws.FnCutEndQuorumEpochRequest', WHERE WHAT IT READS IS OF BULK AT MOST 1048576: true; the input reads as it did. -/
def fnCutEndQuorumEpochRequestUptoRow : OpenClaim := { program := "ytlbojjkfjhnaaaagreatdoor", sum := "47fb29544f622708dac150b0eac0e5a697ed083fa8349231eb0ae62d9afcdd30", func := "pub-kmsg/laws.FnCutEndQuorumEpochRequest", spec := "fnCutEndQuorumEpochRequest", inPlace := ["internal/reflectlite.ValueOf", "internal/reflectlite.Swapper", "(internal/reflectlite.Value).Len"], unfollowed := true, recurses := true, named := ["encoding/binary.BigEndian", "pub-kmsg/pub/kmsg/inner/kbin.ErrNotEnoughData"], loops := true, apart := false, laid := [("pub-kmsg/pub/kmsg/inner/kbin.ErrNotEnoughData", laid_pub_kmsg_pub_kmsg_inner_kbin_ErrNotEnoughData)], narrowed := true }
def FnCutEndQuorumEpochRequestUptoSaid : Prop := fnCutEndQuorumEpochRequestUptoRow.holds Tryz.pinned (OpenSpec.upto fnCutEndQuorumEpochRequestSpec)

/-- 'laws.FnAgainDescribeGroupsResponse', WHERE WHAT IT READS IS OF BULK AT MOST 1048576: true; the input reads as it did. -/
def fnAgainDescribeGroupsResponseUptoRow : OpenClaim := { program := "ytlbojjkfjhnaaaagreatdoor", sum := "47fb29544f622708dac150b0eac0e5a697ed083fa8349231eb0ae62d9afcdd30", func := "pub-kmsg/laws.FnAgainDescribeGroupsResponse", spec := "fnAgainDescribeGroupsResponse", inPlace := ["internal/reflectlite.ValueOf", "internal/reflectlite.Swapper", "(internal/reflectlite.Value).Len"], unfollowed := true, recurses := true, named := ["encoding/binary.BigEndian", "pub-kmsg/pub/kmsg/inner/kbin.ErrNotEnoughData"], loops := true, apart := false, laid := [("pub-kmsg/pub/kmsg/inner/kbin.ErrNotEnoughData", laid_pub_kmsg_pub_kmsg_inner_kbin_ErrNotEnoughData)], narrowed := true }
def FnAgainDescribeGroupsResponseUptoSaid : Prop := fnAgainDescribeGroupsResponseUptoRow.holds Tryz.pinned (OpenSpec.upto fnAgainDescribeGroupsResponseSpec)

/-- 'laws.FnAnyShareFetchResponse', WHERE WHAT IT READS IS OF BULK AT MOST 1048576: true; the input reads as it did. -/
def fnAnyShareFetchResponseUptoRow : OpenClaim := { program := "ytlbojjkfjhnaaaagreatdoor", sum := "47fb29544f622708dac150b0eac0e5a697ed083fa8349231eb0ae62d9afcdd30", func := "pub-kmsg/laws.FnAnyShareFetchResponse", spec := "fnAnyShareFetchResponse", inPlace := ["internal/reflectlite.ValueOf", "internal/reflectlite.Swapper", "(internal/reflectlite.Value).Len"], unfollowed := true, recurses := true, named := ["encoding/binary.BigEndian", "pub-kmsg/pub/kmsg/inner/kbin.ErrNotEnoughData"], apart := false, laid := [("pub-kmsg/pub/kmsg/inner/kbin.ErrNotEnoughData", laid_pub_kmsg_pub_kmsg_inner_kbin_ErrNotEnoughData)], narrowed := true }
def FnAnyShareFetchResponseUptoSaid : Prop := fnAnyShareFetchResponseUptoRow.holds Tryz.pinned (OpenSpec.upto fnAnyShareFetchResponseSpec)

end Rows
end Go.Proofs.YtlbojjkfjhnaaaaGreatDoor
