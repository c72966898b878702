/-
  NARROWER THAN 'FOR EVERY INPUT', by the rows' own cells (each row's printed sentence says how): FnCutDescribeClientQuotasRequest: loops, laid · FnCutListTransactionsResponse: loops, laid · FnAgainListOffsetsResponse: loops, laid · FnAgainWriteTxnMarkersRequest: loops, laid · FnAgainAlterShareGroupOffsetsResponse: loops, laid · FnCutAlterConfigsRequest: loops, laid · FnAgainStopReplicaRequest: loops, laid · FnCutFindCoordinatorResponse: loops, laid · FnCutDescribeProducersResponse: loops, laid.
  DERIVED. THE GIVEN ROWS OF THIS SEAT. 9 by the template 'for every input the law returns true; each argument reads behind the call as it read before'; 0 by the template 'total and deterministic' (their statements: YtilojmciknccgabGreatDoorTotals.lean).
  GIVEN WITH THE SEED: the statements are not yours to turn. If you find one false, say at which input.
  Laid BY PROGRAM, IN A SANDBOX (cutbox-rows.mjs): the forced cells as the released guide's own fill.sh prints them over the translation cd0f4eed9c746d73… (all of the seat's roots in one cut). By AI agents, Wed Nov 11 2026. No macro, syntax, notation, axiom, sorry.
-/
import Derived.Test.YtilojmciknccgabGreatDoorChecked
import GoSem.Claim
import GoSem.ClaimJoined
import GoSem.ClaimMapViews
import Derived.JoinedTies
import Derived.KernelRfl
namespace Go.Proofs.YtilojmciknccgabGreatDoor
/- THE CELL 'sum', in the pinned program and in every row, IS THE sha256 OF THE DUMP (.gsa) THAT YtilojmciknccgabGreatDoorProg.lean LOADS. Nothing in Lean hashes anything: it is a label: what it is worth is what the hold of that sum in a sandbox is worth. -/
noncomputable def Tryz.pinned : Pinned := { name := "ytilojmciknccgabgreatdoor", sum := "cd0f4eed9c746d7334fd2f47e2a44d51bfecc1943fc1cefc57bd41900a5add6b", checked := Tryz.checked }
namespace Rows
def none {H : Type} : Left H := { results := [], args := [] }

/- WHAT THE LISTED PACKAGE-LEVEL VARIABLES READ AS WHEN THE CALL BEGINS. Each datum BY PROGRAM (the guide's laid-datum.mjs) off the statement by which the dump's own 'gosem.cut.vars' lays the variable. In a bare row this is a premise. The card (YtilojmciknccgabGreatDoorCards.lean) ties it to the program's text. -/
def laid_pub_kmsg_pub_kmsg_inner_kbin_ErrNotEnoughData {H : Type} : DataW H := .iface "*errors.errorString" (.ptr (.agg [.lit (.string [114, 101, 115, 112, 111, 110, 115, 101, 32, 100, 105, 100, 32, 110, 111, 116, 32, 99, 111, 110, 116, 97, 105, 110, 32, 101, 110, 111, 117, 103, 104, 32, 100, 97, 116, 97, 32, 116, 111, 32, 98, 101, 32, 118, 97, 108, 105, 100])]))

/-- 'laws.FnCutDescribeClientQuotasRequest': WHATEVER THE INPUT: true; the input reads as it did. -/
def fnCutDescribeClientQuotasRequestSpec : ChangeSpec := { name := "fnCutDescribeClientQuotasRequest", fn := fun _ => fun
  | [d1, d2, d3] => { results := [.lit (.bool true)], args := [d1, d2, d3] }
  | _ => none }
def fnCutDescribeClientQuotasRequestRow : OpenClaim := { program := "ytilojmciknccgabgreatdoor", sum := "cd0f4eed9c746d7334fd2f47e2a44d51bfecc1943fc1cefc57bd41900a5add6b", func := "pub-kmsg/laws.FnCutDescribeClientQuotasRequest", spec := "fnCutDescribeClientQuotasRequest", inPlace := ["internal/reflectlite.ValueOf", "internal/reflectlite.Swapper", "(internal/reflectlite.Value).Len"], unfollowed := true, recurses := true, named := ["encoding/binary.BigEndian", "pub-kmsg/pub/kmsg/inner/kbin.ErrNotEnoughData"], loops := true, apart := false, laid := [("pub-kmsg/pub/kmsg/inner/kbin.ErrNotEnoughData", laid_pub_kmsg_pub_kmsg_inner_kbin_ErrNotEnoughData)] }
def FnCutDescribeClientQuotasRequestSaid : Prop := fnCutDescribeClientQuotasRequestRow.holds Tryz.pinned (OpenSpec.ofChange fnCutDescribeClientQuotasRequestSpec)

/-- ITS FALSE NEIGHBOUR: 'it returns false'. Refute it at one input. -/
def fnCutDescribeClientQuotasRequestWrong : ChangeSpec := { name := "fnCutDescribeClientQuotasRequest", fn := fun _ => fun
  | [d1, d2, d3] => { results := [.lit (.bool false)], args := [d1, d2, d3] }
  | _ => none }
def FnCutDescribeClientQuotasRequestWrongFalsely : Prop := fnCutDescribeClientQuotasRequestRow.holds Tryz.pinned (OpenSpec.ofChange fnCutDescribeClientQuotasRequestWrong)

/-- 'laws.FnCutListTransactionsResponse': WHATEVER THE INPUT: true; the input reads as it did. -/
def fnCutListTransactionsResponseSpec : ChangeSpec := { name := "fnCutListTransactionsResponse", fn := fun _ => fun
  | [d1, d2, d3] => { results := [.lit (.bool true)], args := [d1, d2, d3] }
  | _ => none }
def fnCutListTransactionsResponseRow : OpenClaim := { program := "ytilojmciknccgabgreatdoor", sum := "cd0f4eed9c746d7334fd2f47e2a44d51bfecc1943fc1cefc57bd41900a5add6b", func := "pub-kmsg/laws.FnCutListTransactionsResponse", spec := "fnCutListTransactionsResponse", inPlace := ["internal/reflectlite.ValueOf", "internal/reflectlite.Swapper", "(internal/reflectlite.Value).Len"], unfollowed := true, recurses := true, named := ["encoding/binary.BigEndian", "pub-kmsg/pub/kmsg/inner/kbin.ErrNotEnoughData"], loops := true, apart := false, laid := [("pub-kmsg/pub/kmsg/inner/kbin.ErrNotEnoughData", laid_pub_kmsg_pub_kmsg_inner_kbin_ErrNotEnoughData)] }
def FnCutListTransactionsResponseSaid : Prop := fnCutListTransactionsResponseRow.holds Tryz.pinned (OpenSpec.ofChange fnCutListTransactionsResponseSpec)

/-- ITS FALSE NEIGHBOUR: 'it returns false'. Refute it at one input. -/
def fnCutListTransactionsResponseWrong : ChangeSpec := { name := "fnCutListTransactionsResponse", fn := fun _ => fun
  | [d1, d2, d3] => { results := [.lit (.bool false)], args := [d1, d2, d3] }
  | _ => none }
def FnCutListTransactionsResponseWrongFalsely : Prop := fnCutListTransactionsResponseRow.holds Tryz.pinned (OpenSpec.ofChange fnCutListTransactionsResponseWrong)

/-- 'laws.FnAgainListOffsetsResponse': WHATEVER THE INPUT: true; the input reads as it did. -/
def fnAgainListOffsetsResponseSpec : ChangeSpec := { name := "fnAgainListOffsetsResponse", fn := fun _ => fun
  | [d1, d2] => { results := [.lit (.bool true)], args := [d1, d2] }
  | _ => none }
def fnAgainListOffsetsResponseRow : OpenClaim := { program := "ytilojmciknccgabgreatdoor", sum := "cd0f4eed9c746d7334fd2f47e2a44d51bfecc1943fc1cefc57bd41900a5add6b", func := "pub-kmsg/laws.FnAgainListOffsetsResponse", spec := "fnAgainListOffsetsResponse", inPlace := ["internal/reflectlite.ValueOf", "internal/reflectlite.Swapper", "(internal/reflectlite.Value).Len"], unfollowed := true, recurses := true, named := ["encoding/binary.BigEndian", "pub-kmsg/pub/kmsg/inner/kbin.ErrNotEnoughData"], loops := true, apart := false, laid := [("pub-kmsg/pub/kmsg/inner/kbin.ErrNotEnoughData", laid_pub_kmsg_pub_kmsg_inner_kbin_ErrNotEnoughData)] }
def FnAgainListOffsetsResponseSaid : Prop := fnAgainListOffsetsResponseRow.holds Tryz.pinned (OpenSpec.ofChange fnAgainListOffsetsResponseSpec)

/-- ITS FALSE NEIGHBOUR: 'it returns false'. Refute it at one input. -/
def fnAgainListOffsetsResponseWrong : ChangeSpec := { name := "fnAgainListOffsetsResponse", fn := fun _ => fun
  | [d1, d2] => { results := [.lit (.bool false)], args := [d1, d2] }
  | _ => none }
def FnAgainListOffsetsResponseWrongFalsely : Prop := fnAgainListOffsetsResponseRow.holds Tryz.pinned (OpenSpec.ofChange fnAgainListOffsetsResponseWrong)

/-- 'laws.FnAgainWriteTxnMarkersRequest': WHATEVER THE INPUT: true; the input reads as it did. -/
def fnAgainWriteTxnMarkersRequestSpec : ChangeSpec := { name := "fnAgainWriteTxnMarkersRequest", fn := fun _ => fun
  | [d1, d2] => { results := [.lit (.bool true)], args := [d1, d2] }
  | _ => none }
def fnAgainWriteTxnMarkersRequestRow : OpenClaim := { program := "ytilojmciknccgabgreatdoor", sum := "cd0f4eed9c746d7334fd2f47e2a44d51bfecc1943fc1cefc57bd41900a5add6b", func := "pub-kmsg/laws.FnAgainWriteTxnMarkersRequest", spec := "fnAgainWriteTxnMarkersRequest", inPlace := ["internal/reflectlite.ValueOf", "internal/reflectlite.Swapper", "(internal/reflectlite.Value).Len"], unfollowed := true, recurses := true, named := ["encoding/binary.BigEndian", "pub-kmsg/pub/kmsg/inner/kbin.ErrNotEnoughData"], loops := true, apart := false, laid := [("pub-kmsg/pub/kmsg/inner/kbin.ErrNotEnoughData", laid_pub_kmsg_pub_kmsg_inner_kbin_ErrNotEnoughData)] }
def FnAgainWriteTxnMarkersRequestSaid : Prop := fnAgainWriteTxnMarkersRequestRow.holds Tryz.pinned (OpenSpec.ofChange fnAgainWriteTxnMarkersRequestSpec)

/-- ITS FALSE NEIGHBOUR: 'it returns false'. Refute it at one input. -/
def fnAgainWriteTxnMarkersRequestWrong : ChangeSpec := { name := "fnAgainWriteTxnMarkersRequest", fn := fun _ => fun
  | [d1, d2] => { results := [.lit (.bool false)], args := [d1, d2] }
  | _ => none }
def FnAgainWriteTxnMarkersRequestWrongFalsely : Prop := fnAgainWriteTxnMarkersRequestRow.holds Tryz.pinned (OpenSpec.ofChange fnAgainWriteTxnMarkersRequestWrong)

/-- 'laws.FnAgainAlterShareGroupOffsetsResponse': WHATEVER THE INPUT: true; the input reads as it did. -/
def fnAgainAlterShareGroupOffsetsResponseSpec : ChangeSpec := { name := "fnAgainAlterShareGroupOffsetsResponse", fn := fun _ => fun
  | [d1, d2] => { results := [.lit (.bool true)], args := [d1, d2] }
  | _ => none }
def fnAgainAlterShareGroupOffsetsResponseRow : OpenClaim := { program := "ytilojmciknccgabgreatdoor", sum := "cd0f4eed9c746d7334fd2f47e2a44d51bfecc1943fc1cefc57bd41900a5add6b", func := "pub-kmsg/laws.FnAgainAlterShareGroupOffsetsResponse", spec := "fnAgainAlterShareGroupOffsetsResponse", inPlace := ["internal/reflectlite.ValueOf", "internal/reflectlite.Swapper", "(internal/reflectlite.Value).Len"], unfollowed := true, recurses := true, named := ["encoding/binary.BigEndian", "pub-kmsg/pub/kmsg/inner/kbin.ErrNotEnoughData"], loops := true, apart := false, laid := [("pub-kmsg/pub/kmsg/inner/kbin.ErrNotEnoughData", laid_pub_kmsg_pub_kmsg_inner_kbin_ErrNotEnoughData)] }
def FnAgainAlterShareGroupOffsetsResponseSaid : Prop := fnAgainAlterShareGroupOffsetsResponseRow.holds Tryz.pinned (OpenSpec.ofChange fnAgainAlterShareGroupOffsetsResponseSpec)

/-- ITS FALSE NEIGHBOUR: 'it returns false'. Refute it at one input. -/
def fnAgainAlterShareGroupOffsetsResponseWrong : ChangeSpec := { name := "fnAgainAlterShareGroupOffsetsResponse", fn := fun _ => fun
  | [d1, d2] => { results := [.lit (.bool false)], args := [d1, d2] }
  | _ => none }
def FnAgainAlterShareGroupOffsetsResponseWrongFalsely : Prop := fnAgainAlterShareGroupOffsetsResponseRow.holds Tryz.pinned (OpenSpec.ofChange fnAgainAlterShareGroupOffsetsResponseWrong)

/-- 'laws.FnCutAlterConfigsRequest': WHATEVER THE INPUT: true; the input reads as it did. -/
def fnCutAlterConfigsRequestSpec : ChangeSpec := { name := "fnCutAlterConfigsRequest", fn := fun _ => fun
  | [d1, d2, d3] => { results := [.lit (.bool true)], args := [d1, d2, d3] }
  | _ => none }
def fnCutAlterConfigsRequestRow : OpenClaim := { program := "ytilojmciknccgabgreatdoor", sum := "cd0f4eed9c746d7334fd2f47e2a44d51bfecc1943fc1cefc57bd41900a5add6b", func := "pub-kmsg/laws.FnCutAlterConfigsRequest", spec := "fnCutAlterConfigsRequest", inPlace := ["internal/reflectlite.ValueOf", "internal/reflectlite.Swapper", "(internal/reflectlite.Value).Len"], unfollowed := true, recurses := true, named := ["encoding/binary.BigEndian", "pub-kmsg/pub/kmsg/inner/kbin.ErrNotEnoughData"], loops := true, apart := false, laid := [("pub-kmsg/pub/kmsg/inner/kbin.ErrNotEnoughData", laid_pub_kmsg_pub_kmsg_inner_kbin_ErrNotEnoughData)] }
def FnCutAlterConfigsRequestSaid : Prop := fnCutAlterConfigsRequestRow.holds Tryz.pinned (OpenSpec.ofChange fnCutAlterConfigsRequestSpec)

/-- ITS FALSE NEIGHBOUR: 'it returns false'. Refute it at one input. -/
def fnCutAlterConfigsRequestWrong : ChangeSpec := { name := "fnCutAlterConfigsRequest", fn := fun _ => fun
  | [d1, d2, d3] => { results := [.lit (.bool false)], args := [d1, d2, d3] }
  | _ => none }
def FnCutAlterConfigsRequestWrongFalsely : Prop := fnCutAlterConfigsRequestRow.holds Tryz.pinned (OpenSpec.ofChange fnCutAlterConfigsRequestWrong)

/-- 'laws.FnAgainStopReplicaRequest': WHATEVER THE INPUT: true; the input reads as it did. -/
def fnAgainStopReplicaRequestSpec : ChangeSpec := { name := "fnAgainStopReplicaRequest", fn := fun _ => fun
  | [d1, d2] => { results := [.lit (.bool true)], args := [d1, d2] }
  | _ => none }
def fnAgainStopReplicaRequestRow : OpenClaim := { program := "ytilojmciknccgabgreatdoor", sum := "cd0f4eed9c746d7334fd2f47e2a44d51bfecc1943fc1cefc57bd41900a5add6b", func := "pub-kmsg/laws.FnAgainStopReplicaRequest", spec := "fnAgainStopReplicaRequest", inPlace := ["internal/reflectlite.ValueOf", "internal/reflectlite.Swapper", "(internal/reflectlite.Value).Len"], unfollowed := true, recurses := true, named := ["encoding/binary.BigEndian", "pub-kmsg/pub/kmsg/inner/kbin.ErrNotEnoughData"], loops := true, apart := false, laid := [("pub-kmsg/pub/kmsg/inner/kbin.ErrNotEnoughData", laid_pub_kmsg_pub_kmsg_inner_kbin_ErrNotEnoughData)] }
def FnAgainStopReplicaRequestSaid : Prop := fnAgainStopReplicaRequestRow.holds Tryz.pinned (OpenSpec.ofChange fnAgainStopReplicaRequestSpec)

/-- ITS FALSE NEIGHBOUR: 'it returns false'. Refute it at one input. -/
def fnAgainStopReplicaRequestWrong : ChangeSpec := { name := "fnAgainStopReplicaRequest", fn := fun _ => fun
  | [d1, d2] => { results := [.lit (.bool false)], args := [d1, d2] }
  | _ => none }
def FnAgainStopReplicaRequestWrongFalsely : Prop := fnAgainStopReplicaRequestRow.holds Tryz.pinned (OpenSpec.ofChange fnAgainStopReplicaRequestWrong)

/-- 'laws.FnCutFindCoordinatorResponse': WHATEVER THE INPUT: true; the input reads as it did. -/
def fnCutFindCoordinatorResponseSpec : ChangeSpec := { name := "fnCutFindCoordinatorResponse", fn := fun _ => fun
  | [d1, d2, d3] => { results := [.lit (.bool true)], args := [d1, d2, d3] }
  | _ => none }
def fnCutFindCoordinatorResponseRow : OpenClaim := { program := "ytilojmciknccgabgreatdoor", sum := "cd0f4eed9c746d7334fd2f47e2a44d51bfecc1943fc1cefc57bd41900a5add6b", func := "pub-kmsg/laws.FnCutFindCoordinatorResponse", spec := "fnCutFindCoordinatorResponse", inPlace := ["internal/reflectlite.ValueOf", "internal/reflectlite.Swapper", "(internal/reflectlite.Value).Len"], unfollowed := true, recurses := true, named := ["encoding/binary.BigEndian", "pub-kmsg/pub/kmsg/inner/kbin.ErrNotEnoughData"], loops := true, apart := false, laid := [("pub-kmsg/pub/kmsg/inner/kbin.ErrNotEnoughData", laid_pub_kmsg_pub_kmsg_inner_kbin_ErrNotEnoughData)] }
def FnCutFindCoordinatorResponseSaid : Prop := fnCutFindCoordinatorResponseRow.holds Tryz.pinned (OpenSpec.ofChange fnCutFindCoordinatorResponseSpec)

/-- ITS FALSE NEIGHBOUR: 'it returns false'. Refute it at one input. -/
def fnCutFindCoordinatorResponseWrong : ChangeSpec := { name := "fnCutFindCoordinatorResponse", fn := fun _ => fun
  | [d1, d2, d3] => { results := [.lit (.bool false)], args := [d1, d2, d3] }
  | _ => none }
def FnCutFindCoordinatorResponseWrongFalsely : Prop := fnCutFindCoordinatorResponseRow.holds Tryz.pinned (OpenSpec.ofChange fnCutFindCoordinatorResponseWrong)

/-- 'laws.FnCutDescribeProducersResponse': WHATEVER THE INPUT: true; the input reads as it did. -/
def fnCutDescribeProducersResponseSpec : ChangeSpec := { name := "fnCutDescribeProducersResponse", fn := fun _ => fun
  | [d1, d2, d3] => { results := [.lit (.bool true)], args := [d1, d2, d3] }
  | _ => none }
def fnCutDescribeProducersResponseRow : OpenClaim := { program := "ytilojmciknccgabgreatdoor", sum := "cd0f4eed9c746d7334fd2f47e2a44d51bfecc1943fc1cefc57bd41900a5add6b", func := "pub-kmsg/laws.FnCutDescribeProducersResponse", spec := "fnCutDescribeProducersResponse", inPlace := ["internal/reflectlite.ValueOf", "internal/reflectlite.Swapper", "(internal/reflectlite.Value).Len"], unfollowed := true, recurses := true, named := ["encoding/binary.BigEndian", "pub-kmsg/pub/kmsg/inner/kbin.ErrNotEnoughData"], loops := true, apart := false, laid := [("pub-kmsg/pub/kmsg/inner/kbin.ErrNotEnoughData", laid_pub_kmsg_pub_kmsg_inner_kbin_ErrNotEnoughData)] }
def FnCutDescribeProducersResponseSaid : Prop := fnCutDescribeProducersResponseRow.holds Tryz.pinned (OpenSpec.ofChange fnCutDescribeProducersResponseSpec)

/-- ITS FALSE NEIGHBOUR: 'it returns false'. Refute it at one input. -/
def fnCutDescribeProducersResponseWrong : ChangeSpec := { name := "fnCutDescribeProducersResponse", fn := fun _ => fun
  | [d1, d2, d3] => { results := [.lit (.bool false)], args := [d1, d2, d3] }
  | _ => none }
def FnCutDescribeProducersResponseWrongFalsely : Prop := fnCutDescribeProducersResponseRow.holds Tryz.pinned (OpenSpec.ofChange fnCutDescribeProducersResponseWrong)

/- THE SECOND FORM. 'bulk': how many values and letters a reading holds, each counted each time it is reached (what is shared counts as often as it is met; a slice's spare places count too). A statement '..UptoSaid' is the law's where the arguments, and the package variables that the reading takes, are together of bulk at most 1048576: NARROWER than '..Said'. Prove '..Said' where nothing that the law and all that it calls make is longer than what came in: it says more and counts as full. Else prove '..UptoSaid'. A law counts once. -/
mutual
def uptoBulk {H : Type} : DataW H → Nat
  | .lit (.string bytes) => bytes.length + 1
  | .lit _ => 1
  | .nil => 1
  | .ptr d => uptoBulk d + 1
  | .slice elems spare => uptoBulkAll elems + uptoBulkAll spare + 1
  | .agg parts => uptoBulkAll parts + 1
  | .iface _ d => uptoBulk d + 1
  | .map entries => uptoBulkEntries entries + 1
  | .held _ => 1
def uptoBulkAll {H : Type} : List (DataW H) → Nat
  | [] => 0
  | d :: r => uptoBulk d + uptoBulkAll r
def uptoBulkEntries {H : Type} : List (Lit × DataW H) → Nat
  | [] => 0
  | x :: r => uptoBulkEntry x + uptoBulkEntries r
def uptoBulkEntry {H : Type} : Lit × DataW H → Nat
  | (.string bytes, d) => bytes.length + uptoBulk d + 1
  | (_, d) => uptoBulk d + 1
 end
def uptoSmall : (H : Type) → List (DataW H) → Bool := fun _ ds => decide (uptoBulkAll ds ≤ 1048576)
def OpenSpec.upto (s : _root_.Go.ChangeSpec) : _root_.Go.OpenSpec := { _root_.Go.OpenSpec.ofChange s with cond := some uptoSmall }

/-- 'laws.FnCutDescribeClientQuotasRequest', WHERE WHAT IT READS IS OF BULK AT MOST 1048576: true; the input reads as it did. -/
def fnCutDescribeClientQuotasRequestUptoRow : OpenClaim := { program := "ytilojmciknccgabgreatdoor", sum := "cd0f4eed9c746d7334fd2f47e2a44d51bfecc1943fc1cefc57bd41900a5add6b", func := "pub-kmsg/laws.FnCutDescribeClientQuotasRequest", spec := "fnCutDescribeClientQuotasRequest", inPlace := ["internal/reflectlite.ValueOf", "internal/reflectlite.Swapper", "(internal/reflectlite.Value).Len"], unfollowed := true, recurses := true, named := ["encoding/binary.BigEndian", "pub-kmsg/pub/kmsg/inner/kbin.ErrNotEnoughData"], loops := true, apart := false, laid := [("pub-kmsg/pub/kmsg/inner/kbin.ErrNotEnoughData", laid_pub_kmsg_pub_kmsg_inner_kbin_ErrNotEnoughData)], narrowed := true }
def FnCutDescribeClientQuotasRequestUptoSaid : Prop := fnCutDescribeClientQuotasRequestUptoRow.holds Tryz.pinned (OpenSpec.upto fnCutDescribeClientQuotasRequestSpec)

/-- 'laws.FnCutListTransactionsResponse', WHERE WHAT IT READS IS OF BULK AT MOST 1048576: true; the input reads as it did. -/
def fnCutListTransactionsResponseUptoRow : OpenClaim := { program := "ytilojmciknccgabgreatdoor", sum := "cd0f4eed9c746d7334fd2f47e2a44d51bfecc1943fc1cefc57bd41900a5add6b", func := "pub-kmsg/laws.FnCutListTransactionsResponse", spec := "fnCutListTransactionsResponse", inPlace := ["internal/reflectlite.ValueOf", "internal/reflectlite.Swapper", "(internal/reflectlite.Value).Len"], unfollowed := true, recurses := true, named := ["encoding/binary.BigEndian", "pub-kmsg/pub/kmsg/inner/kbin.ErrNotEnoughData"], loops := true, apart := false, laid := [("pub-kmsg/pub/kmsg/inner/kbin.ErrNotEnoughData", laid_pub_kmsg_pub_kmsg_inner_kbin_ErrNotEnoughData)], narrowed := true }
def FnCutListTransactionsResponseUptoSaid : Prop := fnCutListTransactionsResponseUptoRow.holds Tryz.pinned (OpenSpec.upto fnCutListTransactionsResponseSpec)

/-- 'laws.FnAgainListOffsetsResponse', WHERE WHAT IT READS IS OF BULK AT MOST 1048576: true; the input reads as it did. -/
def fnAgainListOffsetsResponseUptoRow : OpenClaim := { program := "ytilojmciknccgabgreatdoor", sum := "cd0f4eed9c746d7334fd2f47e2a44d51bfecc1943fc1cefc57bd41900a5add6b", func := "pub-kmsg/laws.FnAgainListOffsetsResponse", spec := "fnAgainListOffsetsResponse", inPlace := ["internal/reflectlite.ValueOf", "internal/reflectlite.Swapper", "(internal/reflectlite.Value).Len"], unfollowed := true, recurses := true, named := ["encoding/binary.BigEndian", "pub-kmsg/pub/kmsg/inner/kbin.ErrNotEnoughData"], loops := true, apart := false, laid := [("pub-kmsg/pub/kmsg/inner/kbin.ErrNotEnoughData", laid_pub_kmsg_pub_kmsg_inner_kbin_ErrNotEnoughData)], narrowed := true }
def FnAgainListOffsetsResponseUptoSaid : Prop := fnAgainListOffsetsResponseUptoRow.holds Tryz.pinned (OpenSpec.upto fnAgainListOffsetsResponseSpec)

/-- 'laws.FnAgainWriteTxnMarkersRequest', WHERE WHAT IT READS IS OF BULK AT MOST 1048576: true; the input reads as it did. -/
def fnAgainWriteTxnMarkersRequestUptoRow : OpenClaim := { program := "ytilojmciknccgabgreatdoor", sum := "cd0f4eed9c746d7334fd2f47e2a44d51bfecc1943fc1cefc57bd41900a5add6b", func := "pub-kmsg/laws.FnAgainWriteTxnMarkersRequest", spec := "fnAgainWriteTxnMarkersRequest", inPlace := ["internal/reflectlite.ValueOf", "internal/reflectlite.Swapper", "(internal/reflectlite.Value).Len"], unfollowed := true, recurses := true, named := ["encoding/binary.BigEndian", "pub-kmsg/pub/kmsg/inner/kbin.ErrNotEnoughData"], loops := true, apart := false, laid := [("pub-kmsg/pub/kmsg/inner/kbin.ErrNotEnoughData", laid_pub_kmsg_pub_kmsg_inner_kbin_ErrNotEnoughData)], narrowed := true }
def FnAgainWriteTxnMarkersRequestUptoSaid : Prop := fnAgainWriteTxnMarkersRequestUptoRow.holds Tryz.pinned (OpenSpec.upto fnAgainWriteTxnMarkersRequestSpec)

/-- 'laws.FnAgainAlterShareGroupOffsetsResponse', WHERE WHAT IT READS IS OF BULK AT MOST 1048576: true; the input reads as it did. -/
def fnAgainAlterShareGroupOffsetsResponseUptoRow : OpenClaim := { program := "ytilojmciknccgabgreatdoor", sum := "cd0f4eed9c746d7334fd2f47e2a44d51bfecc1943fc1cefc57bd41900a5add6b", func := "pub-kmsg/laws.FnAgainAlterShareGroupOffsetsResponse", spec := "fnAgainAlterShareGroupOffsetsResponse", inPlace := ["internal/reflectlite.ValueOf", "internal/reflectlite.Swapper", "(internal/reflectlite.Value).Len"], unfollowed := true, recurses := true, named := ["encoding/binary.BigEndian", "pub-kmsg/pub/kmsg/inner/kbin.ErrNotEnoughData"], loops := true, apart := false, laid := [("pub-kmsg/pub/kmsg/inner/kbin.ErrNotEnoughData", laid_pub_kmsg_pub_kmsg_inner_kbin_ErrNotEnoughData)], narrowed := true }
def FnAgainAlterShareGroupOffsetsResponseUptoSaid : Prop := fnAgainAlterShareGroupOffsetsResponseUptoRow.holds Tryz.pinned (OpenSpec.upto fnAgainAlterShareGroupOffsetsResponseSpec)

/-- 'laws.FnCutAlterConfigsRequest', WHERE WHAT IT READS IS OF BULK AT MOST 1048576: true; the input reads as it did. -/
def fnCutAlterConfigsRequestUptoRow : OpenClaim := { program := "ytilojmciknccgabgreatdoor", sum := "cd0f4eed9c746d7334fd2f47e2a44d51bfecc1943fc1cefc57bd41900a5add6b", func := "pub-kmsg/laws.FnCutAlterConfigsRequest", spec := "fnCutAlterConfigsRequest", inPlace := ["internal/reflectlite.ValueOf", "internal/reflectlite.Swapper", "(internal/reflectlite.Value).Len"], unfollowed := true, recurses := true, named := ["encoding/binary.BigEndian", "pub-kmsg/pub/kmsg/inner/kbin.ErrNotEnoughData"], loops := true, apart := false, laid := [("pub-kmsg/pub/kmsg/inner/kbin.ErrNotEnoughData", laid_pub_kmsg_pub_kmsg_inner_kbin_ErrNotEnoughData)], narrowed := true }
def FnCutAlterConfigsRequestUptoSaid : Prop := fnCutAlterConfigsRequestUptoRow.holds Tryz.pinned (OpenSpec.upto fnCutAlterConfigsRequestSpec)

/-- 'laws.FnAgainStopReplicaRequest', WHERE WHAT IT READS IS OF BULK AT MOST 1048576: true; the input reads as it did. -/
def fnAgainStopReplicaRequestUptoRow : OpenClaim := { program := "ytilojmciknccgabgreatdoor", sum := "cd0f4eed9c746d7334fd2f47e2a44d51bfecc1943fc1cefc57bd41900a5add6b", func := "pub-kmsg/laws.FnAgainStopReplicaRequest", spec := "fnAgainStopReplicaRequest", inPlace := ["internal/reflectlite.ValueOf", "internal/reflectlite.Swapper", "(internal/reflectlite.Value).Len"], unfollowed := true, recurses := true, named := ["encoding/binary.BigEndian", "pub-kmsg/pub/kmsg/inner/kbin.ErrNotEnoughData"], loops := true, apart := false, laid := [("pub-kmsg/pub/kmsg/inner/kbin.ErrNotEnoughData", laid_pub_kmsg_pub_kmsg_inner_kbin_ErrNotEnoughData)], narrowed := true }
def FnAgainStopReplicaRequestUptoSaid : Prop := fnAgainStopReplicaRequestUptoRow.holds Tryz.pinned (OpenSpec.upto fnAgainStopReplicaRequestSpec)

/-- 'laws.FnCutFindCoordinatorResponse', WHERE WHAT IT READS IS OF BULK AT MOST 1048576: true; the input reads as it did. -/
def fnCutFindCoordinatorResponseUptoRow : OpenClaim := { program := "ytilojmciknccgabgreatdoor", sum := "cd0f4eed9c746d7334fd2f47e2a44d51bfecc1943fc1cefc57bd41900a5add6b", func := "pub-kmsg/laws.FnCutFindCoordinatorResponse", spec := "fnCutFindCoordinatorResponse", inPlace := ["internal/reflectlite.ValueOf", "internal/reflectlite.Swapper", "(internal/reflectlite.Value).Len"], unfollowed := true, recurses := true, named := ["encoding/binary.BigEndian", "pub-kmsg/pub/kmsg/inner/kbin.ErrNotEnoughData"], loops := true, apart := false, laid := [("pub-kmsg/pub/kmsg/inner/kbin.ErrNotEnoughData", laid_pub_kmsg_pub_kmsg_inner_kbin_ErrNotEnoughData)], narrowed := true }
def FnCutFindCoordinatorResponseUptoSaid : Prop := fnCutFindCoordinatorResponseUptoRow.holds Tryz.pinned (OpenSpec.upto fnCutFindCoordinatorResponseSpec)

/-- 'laws.FnCutDescribeProducersResponse', WHERE WHAT IT READS IS OF BULK AT MOST 1048576: true; the input reads as it did. -/
def fnCutDescribeProducersResponseUptoRow : OpenClaim := { program := "ytilojmciknccgabgreatdoor", sum := "cd0f4eed9c746d7334fd2f47e2a44d51bfecc1943fc1cefc57bd41900a5add6b", func := "pub-kmsg/laws.FnCutDescribeProducersResponse", spec := "fnCutDescribeProducersResponse", inPlace := ["internal/reflectlite.ValueOf", "internal/reflectlite.Swapper", "(internal/reflectlite.Value).Len"], unfollowed := true, recurses := true, named := ["encoding/binary.BigEndian", "pub-kmsg/pub/kmsg/inner/kbin.ErrNotEnoughData"], loops := true, apart := false, laid := [("pub-kmsg/pub/kmsg/inner/kbin.ErrNotEnoughData", laid_pub_kmsg_pub_kmsg_inner_kbin_ErrNotEnoughData)], narrowed := true }
def FnCutDescribeProducersResponseUptoSaid : Prop := fnCutDescribeProducersResponseUptoRow.holds Tryz.pinned (OpenSpec.upto fnCutDescribeProducersResponseSpec)

end Rows
end Go.Proofs.YtilojmciknccgabGreatDoor
