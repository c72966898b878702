/-
  No cell of these rows narrows 'for every input' (looked for: loops, veiled, ifaces, maps, wideKeys, modest, calm, conditions, laid).
  DERIVED. THE GIVEN ROWS OF THIS SEAT. 9 by the template 'for every input the law returns true; each argument reads behind the call as it read before'; 0 by the template 'total and deterministic' (their statements: YtfiadcfdnpggdaaTotals.lean).
  GIVEN WITH THE SEED: the statements are not yours to turn. If you find one false, say at which input.
  Laid BY PROGRAM, IN A SANDBOX (cutbox-rows.mjs): the forced cells as the released guide's own fill.sh prints them over the translation ddf72958fa54e08b… (all of the seat's roots in one cut). By AI agents, Wed Nov 11 2026. No macro, syntax, notation, axiom, sorry.
-/
import Derived.Test.YtfiadcfdnpggdaaChecked
import GoSem.Claim
import GoSem.ClaimJoined
import GoSem.ClaimMapViews
import Derived.JoinedTies
import Derived.KernelRfl
namespace Go.Proofs.Ytfiadcfdnpggdaa
/- THE CELL 'sum', in the pinned program and in every row, IS THE sha256 OF THE DUMP (.gsa) THAT YtfiadcfdnpggdaaProg.lean LOADS. Nothing in Lean hashes anything: it is a label: what it is worth is what the hold of that sum in a sandbox is worth. -/
noncomputable def Try.pinned : Pinned := { name := "ytfiadcfdnpggdaa", sum := "ddf72958fa54e08b444d9a8c303fe7c55250d3bca7e35657e6e2abbea6496dd4", checked := Try.checked }
namespace Rows
def none {H : Type} : Left H := { results := [], args := [] }

/-- 'laws.FnNewUnregisterControllerRequest': WHATEVER THE INPUT: true; the input reads as it did. -/
def fnNewUnregisterControllerRequestSpec : ChangeSpec := { name := "fnNewUnregisterControllerRequest", fn := fun _ => fun
  | [d] => { results := [.lit (.bool true)], args := [d] }
  | _ => none }
def fnNewUnregisterControllerRequestRow : OpenClaim := { program := "ytfiadcfdnpggdaa", sum := "ddf72958fa54e08b444d9a8c303fe7c55250d3bca7e35657e6e2abbea6496dd4", func := "pub-kmsg/laws.FnNewUnregisterControllerRequest", spec := "fnNewUnregisterControllerRequest", inPlace := ["internal/reflectlite.ValueOf", "internal/reflectlite.Swapper", "(internal/reflectlite.Value).Len"], unfollowed := true, recurses := true, apart := false }
def FnNewUnregisterControllerRequestSaid : Prop := fnNewUnregisterControllerRequestRow.holds Try.pinned (OpenSpec.ofChange fnNewUnregisterControllerRequestSpec)

/-- ITS FALSE NEIGHBOUR: 'it returns false'. Refute it at one input. -/
def fnNewUnregisterControllerRequestWrong : ChangeSpec := { name := "fnNewUnregisterControllerRequest", fn := fun _ => fun
  | [d] => { results := [.lit (.bool false)], args := [d] }
  | _ => none }
def FnNewUnregisterControllerRequestWrongFalsely : Prop := fnNewUnregisterControllerRequestRow.holds Try.pinned (OpenSpec.ofChange fnNewUnregisterControllerRequestWrong)

/-- 'laws.FnNewSASLAuthenticateRequest': WHATEVER THE INPUT: true; the input reads as it did. -/
def fnNewSASLAuthenticateRequestSpec : ChangeSpec := { name := "fnNewSASLAuthenticateRequest", fn := fun _ => fun
  | [d] => { results := [.lit (.bool true)], args := [d] }
  | _ => none }
def fnNewSASLAuthenticateRequestRow : OpenClaim := { program := "ytfiadcfdnpggdaa", sum := "ddf72958fa54e08b444d9a8c303fe7c55250d3bca7e35657e6e2abbea6496dd4", func := "pub-kmsg/laws.FnNewSASLAuthenticateRequest", spec := "fnNewSASLAuthenticateRequest", inPlace := ["internal/reflectlite.ValueOf", "internal/reflectlite.Swapper", "(internal/reflectlite.Value).Len"], unfollowed := true, recurses := true, apart := false }
def FnNewSASLAuthenticateRequestSaid : Prop := fnNewSASLAuthenticateRequestRow.holds Try.pinned (OpenSpec.ofChange fnNewSASLAuthenticateRequestSpec)

/-- ITS FALSE NEIGHBOUR: 'it returns false'. Refute it at one input. -/
def fnNewSASLAuthenticateRequestWrong : ChangeSpec := { name := "fnNewSASLAuthenticateRequest", fn := fun _ => fun
  | [d] => { results := [.lit (.bool false)], args := [d] }
  | _ => none }
def FnNewSASLAuthenticateRequestWrongFalsely : Prop := fnNewSASLAuthenticateRequestRow.holds Try.pinned (OpenSpec.ofChange fnNewSASLAuthenticateRequestWrong)

/-- 'laws.FnNewAllocateProducerIDsResponse': WHATEVER THE INPUT: true; the input reads as it did. -/
def fnNewAllocateProducerIDsResponseSpec : ChangeSpec := { name := "fnNewAllocateProducerIDsResponse", fn := fun _ => fun
  | [d] => { results := [.lit (.bool true)], args := [d] }
  | _ => none }
def fnNewAllocateProducerIDsResponseRow : OpenClaim := { program := "ytfiadcfdnpggdaa", sum := "ddf72958fa54e08b444d9a8c303fe7c55250d3bca7e35657e6e2abbea6496dd4", func := "pub-kmsg/laws.FnNewAllocateProducerIDsResponse", spec := "fnNewAllocateProducerIDsResponse", inPlace := ["internal/reflectlite.ValueOf", "internal/reflectlite.Swapper", "(internal/reflectlite.Value).Len"], unfollowed := true, recurses := true, apart := false }
def FnNewAllocateProducerIDsResponseSaid : Prop := fnNewAllocateProducerIDsResponseRow.holds Try.pinned (OpenSpec.ofChange fnNewAllocateProducerIDsResponseSpec)

/-- ITS FALSE NEIGHBOUR: 'it returns false'. Refute it at one input. -/
def fnNewAllocateProducerIDsResponseWrong : ChangeSpec := { name := "fnNewAllocateProducerIDsResponse", fn := fun _ => fun
  | [d] => { results := [.lit (.bool false)], args := [d] }
  | _ => none }
def FnNewAllocateProducerIDsResponseWrongFalsely : Prop := fnNewAllocateProducerIDsResponseRow.holds Try.pinned (OpenSpec.ofChange fnNewAllocateProducerIDsResponseWrong)

/-- 'laws.FnNewStopReplicaResponse': WHATEVER THE INPUT: true; the input reads as it did. -/
def fnNewStopReplicaResponseSpec : ChangeSpec := { name := "fnNewStopReplicaResponse", fn := fun _ => fun
  | [d] => { results := [.lit (.bool true)], args := [d] }
  | _ => none }
def fnNewStopReplicaResponseRow : OpenClaim := { program := "ytfiadcfdnpggdaa", sum := "ddf72958fa54e08b444d9a8c303fe7c55250d3bca7e35657e6e2abbea6496dd4", func := "pub-kmsg/laws.FnNewStopReplicaResponse", spec := "fnNewStopReplicaResponse", inPlace := ["internal/reflectlite.ValueOf", "internal/reflectlite.Swapper", "(internal/reflectlite.Value).Len"], unfollowed := true, recurses := true, apart := false }
def FnNewStopReplicaResponseSaid : Prop := fnNewStopReplicaResponseRow.holds Try.pinned (OpenSpec.ofChange fnNewStopReplicaResponseSpec)

/-- ITS FALSE NEIGHBOUR: 'it returns false'. Refute it at one input. -/
def fnNewStopReplicaResponseWrong : ChangeSpec := { name := "fnNewStopReplicaResponse", fn := fun _ => fun
  | [d] => { results := [.lit (.bool false)], args := [d] }
  | _ => none }
def FnNewStopReplicaResponseWrongFalsely : Prop := fnNewStopReplicaResponseRow.holds Try.pinned (OpenSpec.ofChange fnNewStopReplicaResponseWrong)

/-- 'laws.FnNewDescribeLogDirsRequest': WHATEVER THE INPUT: true; the input reads as it did. -/
def fnNewDescribeLogDirsRequestSpec : ChangeSpec := { name := "fnNewDescribeLogDirsRequest", fn := fun _ => fun
  | [d] => { results := [.lit (.bool true)], args := [d] }
  | _ => none }
def fnNewDescribeLogDirsRequestRow : OpenClaim := { program := "ytfiadcfdnpggdaa", sum := "ddf72958fa54e08b444d9a8c303fe7c55250d3bca7e35657e6e2abbea6496dd4", func := "pub-kmsg/laws.FnNewDescribeLogDirsRequest", spec := "fnNewDescribeLogDirsRequest", inPlace := ["internal/reflectlite.ValueOf", "internal/reflectlite.Swapper", "(internal/reflectlite.Value).Len"], unfollowed := true, recurses := true, apart := false }
def FnNewDescribeLogDirsRequestSaid : Prop := fnNewDescribeLogDirsRequestRow.holds Try.pinned (OpenSpec.ofChange fnNewDescribeLogDirsRequestSpec)

/-- ITS FALSE NEIGHBOUR: 'it returns false'. Refute it at one input. -/
def fnNewDescribeLogDirsRequestWrong : ChangeSpec := { name := "fnNewDescribeLogDirsRequest", fn := fun _ => fun
  | [d] => { results := [.lit (.bool false)], args := [d] }
  | _ => none }
def FnNewDescribeLogDirsRequestWrongFalsely : Prop := fnNewDescribeLogDirsRequestRow.holds Try.pinned (OpenSpec.ofChange fnNewDescribeLogDirsRequestWrong)

/-- 'laws.FnNewListPartitionReassignmentsRequest': WHATEVER THE INPUT: true; the input reads as it did. -/
def fnNewListPartitionReassignmentsRequestSpec : ChangeSpec := { name := "fnNewListPartitionReassignmentsRequest", fn := fun _ => fun
  | [d] => { results := [.lit (.bool true)], args := [d] }
  | _ => none }
def fnNewListPartitionReassignmentsRequestRow : OpenClaim := { program := "ytfiadcfdnpggdaa", sum := "ddf72958fa54e08b444d9a8c303fe7c55250d3bca7e35657e6e2abbea6496dd4", func := "pub-kmsg/laws.FnNewListPartitionReassignmentsRequest", spec := "fnNewListPartitionReassignmentsRequest", inPlace := ["internal/reflectlite.ValueOf", "internal/reflectlite.Swapper", "(internal/reflectlite.Value).Len"], unfollowed := true, recurses := true, apart := false }
def FnNewListPartitionReassignmentsRequestSaid : Prop := fnNewListPartitionReassignmentsRequestRow.holds Try.pinned (OpenSpec.ofChange fnNewListPartitionReassignmentsRequestSpec)

/-- ITS FALSE NEIGHBOUR: 'it returns false'. Refute it at one input. -/
def fnNewListPartitionReassignmentsRequestWrong : ChangeSpec := { name := "fnNewListPartitionReassignmentsRequest", fn := fun _ => fun
  | [d] => { results := [.lit (.bool false)], args := [d] }
  | _ => none }
def FnNewListPartitionReassignmentsRequestWrongFalsely : Prop := fnNewListPartitionReassignmentsRequestRow.holds Try.pinned (OpenSpec.ofChange fnNewListPartitionReassignmentsRequestWrong)

/-- 'laws.FnNewOffsetForLeaderEpochResponse': WHATEVER THE INPUT: true; the input reads as it did. -/
def fnNewOffsetForLeaderEpochResponseSpec : ChangeSpec := { name := "fnNewOffsetForLeaderEpochResponse", fn := fun _ => fun
  | [d] => { results := [.lit (.bool true)], args := [d] }
  | _ => none }
def fnNewOffsetForLeaderEpochResponseRow : OpenClaim := { program := "ytfiadcfdnpggdaa", sum := "ddf72958fa54e08b444d9a8c303fe7c55250d3bca7e35657e6e2abbea6496dd4", func := "pub-kmsg/laws.FnNewOffsetForLeaderEpochResponse", spec := "fnNewOffsetForLeaderEpochResponse", inPlace := ["internal/reflectlite.ValueOf", "internal/reflectlite.Swapper", "(internal/reflectlite.Value).Len"], unfollowed := true, recurses := true, apart := false }
def FnNewOffsetForLeaderEpochResponseSaid : Prop := fnNewOffsetForLeaderEpochResponseRow.holds Try.pinned (OpenSpec.ofChange fnNewOffsetForLeaderEpochResponseSpec)

/-- ITS FALSE NEIGHBOUR: 'it returns false'. Refute it at one input. -/
def fnNewOffsetForLeaderEpochResponseWrong : ChangeSpec := { name := "fnNewOffsetForLeaderEpochResponse", fn := fun _ => fun
  | [d] => { results := [.lit (.bool false)], args := [d] }
  | _ => none }
def FnNewOffsetForLeaderEpochResponseWrongFalsely : Prop := fnNewOffsetForLeaderEpochResponseRow.holds Try.pinned (OpenSpec.ofChange fnNewOffsetForLeaderEpochResponseWrong)

/-- 'laws.FnNewInitializeShareGroupStateResponse': WHATEVER THE INPUT: true; the input reads as it did. -/
def fnNewInitializeShareGroupStateResponseSpec : ChangeSpec := { name := "fnNewInitializeShareGroupStateResponse", fn := fun _ => fun
  | [d] => { results := [.lit (.bool true)], args := [d] }
  | _ => none }
def fnNewInitializeShareGroupStateResponseRow : OpenClaim := { program := "ytfiadcfdnpggdaa", sum := "ddf72958fa54e08b444d9a8c303fe7c55250d3bca7e35657e6e2abbea6496dd4", func := "pub-kmsg/laws.FnNewInitializeShareGroupStateResponse", spec := "fnNewInitializeShareGroupStateResponse", inPlace := ["internal/reflectlite.ValueOf", "internal/reflectlite.Swapper", "(internal/reflectlite.Value).Len"], unfollowed := true, recurses := true, apart := false }
def FnNewInitializeShareGroupStateResponseSaid : Prop := fnNewInitializeShareGroupStateResponseRow.holds Try.pinned (OpenSpec.ofChange fnNewInitializeShareGroupStateResponseSpec)

/-- ITS FALSE NEIGHBOUR: 'it returns false'. Refute it at one input. -/
def fnNewInitializeShareGroupStateResponseWrong : ChangeSpec := { name := "fnNewInitializeShareGroupStateResponse", fn := fun _ => fun
  | [d] => { results := [.lit (.bool false)], args := [d] }
  | _ => none }
def FnNewInitializeShareGroupStateResponseWrongFalsely : Prop := fnNewInitializeShareGroupStateResponseRow.holds Try.pinned (OpenSpec.ofChange fnNewInitializeShareGroupStateResponseWrong)

/-- 'laws.FnNewWriteTxnMarkersResponse': WHATEVER THE INPUT: true; the input reads as it did. -/
def fnNewWriteTxnMarkersResponseSpec : ChangeSpec := { name := "fnNewWriteTxnMarkersResponse", fn := fun _ => fun
  | [d] => { results := [.lit (.bool true)], args := [d] }
  | _ => none }
def fnNewWriteTxnMarkersResponseRow : OpenClaim := { program := "ytfiadcfdnpggdaa", sum := "ddf72958fa54e08b444d9a8c303fe7c55250d3bca7e35657e6e2abbea6496dd4", func := "pub-kmsg/laws.FnNewWriteTxnMarkersResponse", spec := "fnNewWriteTxnMarkersResponse", inPlace := ["internal/reflectlite.ValueOf", "internal/reflectlite.Swapper", "(internal/reflectlite.Value).Len"], unfollowed := true, recurses := true, apart := false }
def FnNewWriteTxnMarkersResponseSaid : Prop := fnNewWriteTxnMarkersResponseRow.holds Try.pinned (OpenSpec.ofChange fnNewWriteTxnMarkersResponseSpec)

/-- ITS FALSE NEIGHBOUR: 'it returns false'. Refute it at one input. -/
def fnNewWriteTxnMarkersResponseWrong : ChangeSpec := { name := "fnNewWriteTxnMarkersResponse", fn := fun _ => fun
  | [d] => { results := [.lit (.bool false)], args := [d] }
  | _ => none }
def FnNewWriteTxnMarkersResponseWrongFalsely : Prop := fnNewWriteTxnMarkersResponseRow.holds Try.pinned (OpenSpec.ofChange fnNewWriteTxnMarkersResponseWrong)

/- THE SECOND FORM. 'bulk': how many values and letters a reading holds, each counted each time it is reached (what is shared counts as often as it is met; a slice's spare places count too). A statement '..UptoSaid' is the law's where the arguments, and the package variables that the reading takes, are together of bulk at most 1048576: NARROWER than '..Said'. Prove '..Said' where nothing that the law and all that it calls make is longer than what came in: it says more and counts as full. Else prove '..UptoSaid'. A law counts once. -/
mutual
def uptoBulk {H : Type} : DataW H → Nat
  | .lit (.string bytes) => bytes.length + 1
  | .lit _ => 1
  | .nil => 1
  | .ptr d => uptoBulk d + 1
  | .slice elems spare => uptoBulkAll elems + uptoBulkAll spare + 1
  | .agg parts => uptoBulkAll parts + 1
  | .iface _ d => uptoBulk d + 1
  | .map entries => uptoBulkEntries entries + 1
  | .held _ => 1
def uptoBulkAll {H : Type} : List (DataW H) → Nat
  | [] => 0
  | d :: r => uptoBulk d + uptoBulkAll r
def uptoBulkEntries {H : Type} : List (Lit × DataW H) → Nat
  | [] => 0
  | x :: r => uptoBulkEntry x + uptoBulkEntries r
def uptoBulkEntry {H : Type} : Lit × DataW H → Nat
  | (.string bytes, d) => bytes.length + uptoBulk d + 1
  | (_, d) => uptoBulk d + 1
 end
def uptoSmall : (H : Type) → List (DataW H) → Bool := fun _ ds => decide (uptoBulkAll ds ≤ 1048576)
def OpenSpec.upto (s : _root_.Go.ChangeSpec) : _root_.Go.OpenSpec := { _root_.Go.OpenSpec.ofChange s with cond := some uptoSmall }

/-- 'laws.FnNewUnregisterControllerRequest', WHERE WHAT IT READS IS OF BULK AT MOST 1048576: true; the input reads as it did. -/
def fnNewUnregisterControllerRequestUptoRow : OpenClaim := { program := "ytfiadcfdnpggdaa", sum := "ddf72958fa54e08b444d9a8c303fe7c55250d3bca7e35657e6e2abbea6496dd4", func := "pub-kmsg/laws.FnNewUnregisterControllerRequest", spec := "fnNewUnregisterControllerRequest", inPlace := ["internal/reflectlite.ValueOf", "internal/reflectlite.Swapper", "(internal/reflectlite.Value).Len"], unfollowed := true, recurses := true, apart := false, narrowed := true }
def FnNewUnregisterControllerRequestUptoSaid : Prop := fnNewUnregisterControllerRequestUptoRow.holds Try.pinned (OpenSpec.upto fnNewUnregisterControllerRequestSpec)

/-- 'laws.FnNewSASLAuthenticateRequest', WHERE WHAT IT READS IS OF BULK AT MOST 1048576: true; the input reads as it did. -/
def fnNewSASLAuthenticateRequestUptoRow : OpenClaim := { program := "ytfiadcfdnpggdaa", sum := "ddf72958fa54e08b444d9a8c303fe7c55250d3bca7e35657e6e2abbea6496dd4", func := "pub-kmsg/laws.FnNewSASLAuthenticateRequest", spec := "fnNewSASLAuthenticateRequest", inPlace := ["internal/reflectlite.ValueOf", "internal/reflectlite.Swapper", "(internal/reflectlite.Value).Len"], unfollowed := true, recurses := true, apart := false, narrowed := true }
def FnNewSASLAuthenticateRequestUptoSaid : Prop := fnNewSASLAuthenticateRequestUptoRow.holds Try.pinned (OpenSpec.upto fnNewSASLAuthenticateRequestSpec)

/-- 'laws.FnNewAllocateProducerIDsResponse', WHERE WHAT IT READS IS OF BULK AT MOST 1048576: true; the input reads as it did. -/
def fnNewAllocateProducerIDsResponseUptoRow : OpenClaim := { program := "ytfiadcfdnpggdaa", sum := "ddf72958fa54e08b444d9a8c303fe7c55250d3bca7e35657e6e2abbea6496dd4", func := "pub-kmsg/laws.FnNewAllocateProducerIDsResponse", spec := "fnNewAllocateProducerIDsResponse", inPlace := ["internal/reflectlite.ValueOf", "internal/reflectlite.Swapper", "(internal/reflectlite.Value).Len"], unfollowed := true, recurses := true, apart := false, narrowed := true }
def FnNewAllocateProducerIDsResponseUptoSaid : Prop := fnNewAllocateProducerIDsResponseUptoRow.holds Try.pinned (OpenSpec.upto fnNewAllocateProducerIDsResponseSpec)

/-- 'laws.FnNewStopReplicaResponse', WHERE WHAT IT READS IS OF BULK AT MOST 1048576: true; the input reads as it did. -/
def fnNewStopReplicaResponseUptoRow : OpenClaim := { program := "ytfiadcfdnpggdaa", sum := "ddf72958fa54e08b444d9a8c303fe7c55250d3bca7e35657e6e2abbea6496dd4", func := "pub-kmsg/laws.FnNewStopReplicaResponse", spec := "fnNewStopReplicaResponse", inPlace := ["internal/reflectlite.ValueOf", "internal/reflectlite.Swapper", "(internal/reflectlite.Value).Len"], unfollowed := true, recurses := true, apart := false, narrowed := true }
def FnNewStopReplicaResponseUptoSaid : Prop := fnNewStopReplicaResponseUptoRow.holds Try.pinned (OpenSpec.upto fnNewStopReplicaResponseSpec)

/-- 'laws.FnNewDescribeLogDirsRequest', WHERE WHAT IT READS IS OF BULK AT MOST 1048576: true; the input reads as it did. -/
def fnNewDescribeLogDirsRequestUptoRow : OpenClaim := { program := "ytfiadcfdnpggdaa", sum := "ddf72958fa54e08b444d9a8c303fe7c55250d3bca7e35657e6e2abbea6496dd4", func := "pub-kmsg/laws.FnNewDescribeLogDirsRequest", spec := "fnNewDescribeLogDirsRequest", inPlace := ["internal/reflectlite.ValueOf", "internal/reflectlite.Swapper", "(internal/reflectlite.Value).Len"], unfollowed := true, recurses := true, apart := false, narrowed := true }
def FnNewDescribeLogDirsRequestUptoSaid : Prop := fnNewDescribeLogDirsRequestUptoRow.holds Try.pinned (OpenSpec.upto fnNewDescribeLogDirsRequestSpec)

/-- 'laws.FnNewListPartitionReassignmentsRequest', WHERE WHAT IT READS IS OF BULK AT MOST 1048576: true; the input reads as it did. -/
def fnNewListPartitionReassignmentsRequestUptoRow : OpenClaim := { program := "ytfiadcfdnpggdaa", sum := "ddf72958fa54e08b444d9a8c303fe7c55250d3bca7e35657e6e2abbea6496dd4", func := "pub-kmsg/laws.FnNewListPartitionReassignmentsRequest", spec := "fnNewListPartitionReassignmentsRequest", inPlace := ["internal/reflectlite.ValueOf", "internal/reflectlite.Swapper", "(internal/reflectlite.Value).Len"], unfollowed := true, recurses := true, apart := false, narrowed := true }
def FnNewListPartitionReassignmentsRequestUptoSaid : Prop := fnNewListPartitionReassignmentsRequestUptoRow.holds Try.pinned (OpenSpec.upto fnNewListPartitionReassignmentsRequestSpec)

/-- 'laws.FnNewOffsetForLeaderEpochResponse', WHERE WHAT IT READS IS OF BULK AT MOST 1048576: true; the input reads as it did. -/
def fnNewOffsetForLeaderEpochResponseUptoRow : OpenClaim := { program := "ytfiadcfdnpggdaa", sum := "ddf72958fa54e08b444d9a8c303fe7c55250d3bca7e35657e6e2abbea6496dd4", func := "pub-kmsg/laws.FnNewOffsetForLeaderEpochResponse", spec := "fnNewOffsetForLeaderEpochResponse", inPlace := ["internal/reflectlite.ValueOf", "internal/reflectlite.Swapper", "(internal/reflectlite.Value).Len"], unfollowed := true, recurses := true, apart := false, narrowed := true }
def FnNewOffsetForLeaderEpochResponseUptoSaid : Prop := fnNewOffsetForLeaderEpochResponseUptoRow.holds Try.pinned (OpenSpec.upto fnNewOffsetForLeaderEpochResponseSpec)

/-- 'laws.FnNewInitializeShareGroupStateResponse', WHERE WHAT IT READS IS OF BULK AT MOST 1048576: true; the input reads as it did. -/
def fnNewInitializeShareGroupStateResponseUptoRow : OpenClaim := { program := "ytfiadcfdnpggdaa", sum := "ddf72958fa54e08b444d9a8c303fe7c55250d3bca7e35657e6e2abbea6496dd4", func := "pub-kmsg/laws.FnNewInitializeShareGroupStateResponse", spec := "fnNewInitializeShareGroupStateResponse", inPlace := ["internal/reflectlite.ValueOf", "internal/reflectlite.Swapper", "(internal/reflectlite.Value).Len"], unfollowed := true, recurses := true, apart := false, narrowed := true }
def FnNewInitializeShareGroupStateResponseUptoSaid : Prop := fnNewInitializeShareGroupStateResponseUptoRow.holds Try.pinned (OpenSpec.upto fnNewInitializeShareGroupStateResponseSpec)

/-- 'laws.FnNewWriteTxnMarkersResponse', WHERE WHAT IT READS IS OF BULK AT MOST 1048576: true; the input reads as it did. -/
def fnNewWriteTxnMarkersResponseUptoRow : OpenClaim := { program := "ytfiadcfdnpggdaa", sum := "ddf72958fa54e08b444d9a8c303fe7c55250d3bca7e35657e6e2abbea6496dd4", func := "pub-kmsg/laws.FnNewWriteTxnMarkersResponse", spec := "fnNewWriteTxnMarkersResponse", inPlace := ["internal/reflectlite.ValueOf", "internal/reflectlite.Swapper", "(internal/reflectlite.Value).Len"], unfollowed := true, recurses := true, apart := false, narrowed := true }
def FnNewWriteTxnMarkersResponseUptoSaid : Prop := fnNewWriteTxnMarkersResponseUptoRow.holds Try.pinned (OpenSpec.upto fnNewWriteTxnMarkersResponseSpec)

end Rows
end Go.Proofs.Ytfiadcfdnpggdaa
